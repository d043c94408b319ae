import PyProof.Rows.All
import Wide.All
import OpenK.AllK
import Wide.FinOn
import Lean
import PySem.Challenge.RW_sn0040_01
set_option Elab.async false
set_option linter.unusedVariables false
section
open PySem PySem.W PySem.W.X PyProof.Rows
set_option maxRecDepth 100000
set_option maxHeartbeats 0
namespace Mine
local macro_rules | `(tactic| k_head) => `(tactic| x_head)
open_top hd for PySem.Challenge.rw_sn0040_01
end Mine
end
section
open PySem PySem.W PySem.W.X PyProof.Rows PySem.Calls
set_option maxRecDepth 100000
namespace Mine

structure Ok (k : Nat) (A : Around) : Prop where
  hd : A.handled = none
  dp : A.depth + k ≤ 900
  un : A.units + 10 * k ≤ 9000
theorem Ok.room {k : Nat} {A : Around} (o : Ok k A) : A.depth < recursionLimit := by have := o.dp; show _ < 1000; omega
theorem Ok.unitsOk {k : Nat} {A : Around} (o : Ok k A) : A.units < cLine := by have := o.un; show _ < 9900; omega
theorem Ok.in1 {k : Nat} {A : Around} (o : Ok (k + 1) A) : Ok k A.in1 := ⟨o.hd, by have := o.dp; show A.depth + k ≤ 900; omega, by have := o.un; show A.units + 1 + 10 * k ≤ 9000; omega⟩
theorem Ok.deeper {k : Nat} {A : Around} {env : Env} (o : Ok (k + 1) A) : Ok k (A.deeper env) := ⟨o.hd, by have := o.dp; show A.depth + 1 + k ≤ 900; omega, by have := o.un; show A.units + 3 + 10 * k ≤ 9000; omega⟩
theorem Ok.mono {k j : Nat} {A : Around} (o : Ok k A) (h : j ≤ k) : Ok j A := ⟨o.hd, by have := o.dp; omega, by have := o.un; omega⟩

/-- the frame's names and what they hold -/
def mapOf (ks : List Str) (vs : List (Option Value)) (y : Str) : Option Value := ((ks.zip vs).lookup y).join
theorem mapOf_cons (k : Str) (ks : List Str) (v : Option Value) (vs : List (Option Value)) (y : Str) : mapOf (k :: ks) (v :: vs) y = if y = k then v else mapOf ks vs y := by
  unfold mapOf
  rw [List.zip_cons_cons, List.lookup_cons]
  by_cases h : y = k
  · subst h; simp
  · have : (y == k) = false := by simpa using h
    simp [this, h]
theorem mapOf_get {x : Str} {o : Option Value} : ∀ {ks : List Str} {vs : List (Option Value)} (_ : ks.Nodup) (i : Nat) (_ : ks[i]? = some x) (_ : vs[i]? = some o), mapOf ks vs x = o
  | [], _, _, _, hk, _ => by simp at hk
  | _ :: _, [], _, _, _, hv => by simp at hv
  | k :: ks, v :: vs, hn, 0, hk, hv => by
    simp at hk hv
    rw [mapOf_cons, hk, hv, if_pos rfl]
  | k :: ks, v :: vs, hn, i + 1, hk, hv => by
    simp at hk hv
    have hm : x ∈ ks := List.mem_of_getElem? hk
    have hne : x ≠ k := fun e => (List.nodup_cons.mp hn).1 (e ▸ hm)
    rw [mapOf_cons, if_neg hne]
    exact mapOf_get (List.nodup_cons.mp hn).2 i hk hv
theorem mapOf_set {x : Str} {v : Value} : ∀ {ks : List Str} {vs : List (Option Value)} (_ : ks.Nodup) (i : Nat) (_ : ks[i]? = some x) (_ : i < vs.length),
    (fun y => if y = x then some v else mapOf ks vs y) = mapOf ks (vs.set i (some v))
  | [], _, _, _, hk, _ => by simp at hk
  | _ :: _, [], _, _, _, hv => by simp at hv
  | k :: ks, u :: vs, hn, 0, hk, hv => by
    simp at hk
    subst hk
    funext y
    rw [List.set_cons_zero, mapOf_cons, mapOf_cons]
    by_cases h : y = k <;> simp [h]
  | k :: ks, u :: vs, hn, i + 1, hk, hv => by
    simp at hk hv
    have hm : x ∈ ks := List.mem_of_getElem? hk
    have hne : x ≠ k := fun e => (List.nodup_cons.mp hn).1 (e ▸ hm)
    have ih := mapOf_set (v := v) (List.nodup_cons.mp hn).2 i hk hv
    funext y
    have ih' := congrFun ih y
    rw [List.set_cons_succ, mapOf_cons, mapOf_cons, ← ih']
    by_cases h : y = x
    · subst h; simp [hne]
    · by_cases h' : y = k
      · subst h'; simp [h]
      · simp [h, h']
theorem lookup_reverse : ∀ {l : List (Str × Value)} (_ : (l.map (·.1)).Nodup) (y : Str), l.reverse.lookup y = l.lookup y
  | [], _, _ => rfl
  | (k, v) :: l, hn, y => by
    rw [List.map_cons, List.nodup_cons] at hn
    have ih := lookup_reverse hn.2 y
    rw [List.reverse_cons, List.lookup_append, ih, List.lookup_cons, List.lookup_cons]
    by_cases h : y = k
    · subst h
      have : l.lookup y = none := by
        rw [List.lookup_eq_none_iff]
        intro p hp
        simp only [ne_eq, bne_iff_ne]
        intro e
        exact hn.1 (List.mem_map.mpr ⟨p, hp, e.symm⟩)
      simp [this]
    · have hb : (y == k) = false := by simpa using h
      simp [hb]
theorem mapOf_none (ks : List Str) (y : Str) : mapOf ks (List.replicate ks.length none) y = none := by
  induction ks with
  | nil => rfl
  | cons k ks ih => rw [List.length_cons, List.replicate_succ, mapOf_cons, ih]; split <;> rfl
theorem mapOf_init : ∀ {ks1 ks2 : List Str} {vs : List Value} (_ : ks1.length = vs.length) (_ : (ks1 ++ ks2).Nodup),
    (fun x => (ks1.zip vs).reverse.lookup x) = mapOf (ks1 ++ ks2) (vs.map some ++ List.replicate ks2.length none) := by
  intro ks1 ks2 vs hl hn
  have hn1 : ((ks1.zip vs).map (·.1)).Nodup := by
    have : (ks1.zip vs).map (·.1) = ks1 := by
      rw [List.map_fst_zip]; omega
    rw [this]; exact (List.nodup_append.mp hn).1
  funext y
  rw [lookup_reverse hn1]
  clear hn1
  induction ks1 generalizing vs with
  | nil =>
    cases vs with
    | nil => simp [mapOf_none]
    | cons => simp at hl
  | cons k ks1 ih =>
    cases vs with
    | nil => simp at hl
    | cons v vs =>
      simp at hl
      rw [List.cons_append, List.map_cons, List.cons_append, mapOf_cons, List.zip_cons_cons, List.lookup_cons]
      by_cases h : y = k
      · subst h; simp
      · have hb : (y == k) = false := by simpa using h
        simp only [hb, h, if_false]
        exact ih hl (List.nodup_cons.mp hn).2

/-- what the top left, at any later heap -/
structure Tp (w : World) (h : Heap) : Prop where
  inK : (hd.heap_39 w.params).In h
  g : ∃ mg, h.Ns mainGlobals mg
  b : ∃ mb, h.Ns builtinsNs mb ∧ ∀ x : Str, x ≠ "__name__" → mb x = bootBuiltins x
  nl : h.NoLimit
def Keep (h h' : Heap) : Prop := ∀ b o, h.get? b = some o → h'.get? b = some o
theorem Keep.refl (h : Heap) : Keep h h := fun _ _ e => e
theorem Keep.trans {a b c : Heap} (x : Keep a b) (y : Keep b c) : Keep a c := fun q o e => y q o (x q o e)
theorem Keep.push (h : Heap) (o : Obj) : Keep h (h.push o) := fun _ _ e => Heap.get?_push_of_some _ e
theorem Tp.keep {w : World} {h h' : Heap} (T : Tp w h) (k : Keep h h') : Tp w h' where
  inK := fun a o e => k _ _ (T.inK a o e)
  g := let ⟨m, x⟩ := T.g; ⟨m, x.keeps k⟩
  b := let ⟨m, x, y⟩ := T.b; ⟨m, x.keeps k, y⟩
  nl := T.nl.keeps k
theorem Keep.ofMem {h h' : Heap} {news : List (Addr × Obj)} (D : Mem h h' [] news) : Keep h h' := fun b o e => D.keep b o e (by simp [away])

structure LocOk (scope : Scope) (ks : List Str) : Prop where
  kind : scope.kind = .function
  nd : ks.Nodup
  loc : ∀ x ∈ ks, scope.names.lookup x = some .local ∧ (x == ("__debug__" : Str)) = false

def Same (fp : List Addr) (h h' : Heap) : Prop := ∀ b ∈ fp, ∀ o, h.get? b = some o → h'.get? b = some o
theorem Keep.same {h h' : Heap} (k : Keep h h') (fp : List Addr) : Same fp h h' := fun b _ o e => k b o e

/-- a part of the heap: its places, and what it holds -/
structure Reg where
  fp : List Addr
  P : Heap → Prop
  fr : ∀ h h', P h → Same fp h h' → P h'
  al : ∀ h, P h → ∀ b ∈ fp, ∃ o, h.get? b = some o

/-- a frame's state: h₀ the heap at its start (all of it stands), ks its names, vs what they hold, σ the parts of the heap that it made and still speaks of -/
structure Fm (w : World) (h₀ : Heap) (L : Addr) (ks : List Str) (vs : List (Option Value)) (σ : List Reg) (h : Heap) : Prop where
  top : Tp w h₀
  keep : Keep h₀ h
  ns : h.Ns L (mapOf ks vs)
  fresh : h₀.get? L = none
  led : ∀ (i : Nat) (r : Reg), σ[i]? = some r → r.P h ∧ ∀ b ∈ r.fp, b ≠ L ∧ h₀.get? b = none
  dj : ∀ (i j : Nat) (r r' : Reg), i ≠ j → σ[i]? = some r → σ[j]? = some r' → ∀ b ∈ r.fp, b ∉ r'.fp

section
variable {w : World} {h₀ h h' : Heap} {L : Addr} {ks : List Str} {vs : List (Option Value)} {σ : List Reg}
theorem Fm.tp (S : Fm w h₀ L ks vs σ h) : Tp w h := S.top.keep S.keep
theorem Fm.store (S : Fm w h₀ L ks vs σ h) {vs' : List (Option Value)} (hn : h'.Ns L (mapOf ks vs')) (hs : Heap.ExtBut L h h') : Fm w h₀ L ks vs' σ h' where
  top := S.top
  keep := fun b o e => hs b o (fun q => by rw [q, S.fresh] at e; cases e) (S.keep b o e)
  ns := hn
  fresh := S.fresh
  led := fun i r hi => let ⟨a, c⟩ := S.led i r hi; ⟨r.fr _ _ a fun b hb o e => hs b o (c b hb).1 e, c⟩
  dj := S.dj
theorem Fm.kept (S : Fm w h₀ L ks vs σ h) (k : Keep h h') : Fm w h₀ L ks vs σ h' where
  top := S.top
  keep := S.keep.trans k
  ns := S.ns.keeps k
  fresh := S.fresh
  led := fun i r hi => let ⟨a, c⟩ := S.led i r hi; ⟨r.fr _ _ a (k.same _), c⟩
  dj := S.dj
theorem Fm.lt (S : Fm w h₀ L ks vs σ h) : L < h.objs.size := S.ns.lt
theorem Fm.alive (S : Fm w h₀ L ks vs σ h) : ∃ o, h.get? L = some o := let ⟨o, _, _, q, _⟩ := S.ns; ⟨o, q⟩
theorem Fm.at (S : Fm w h₀ L ks vs σ h) (i : Nat) {r : Reg} (hi : σ[i]? = some r) : r.P h := (S.led i r hi).1
/-- a new part, in a heap that keeps all -/
theorem Fm.add (S : Fm w h₀ L ks vs σ h) (k : Keep h h') (r : Reg) (hP : r.P h') (hf : ∀ b ∈ r.fp, h.get? b = none) : Fm w h₀ L ks vs (r :: σ) h' where
  top := S.top
  keep := S.keep.trans k
  ns := S.ns.keeps k
  fresh := S.fresh
  led := fun i r' hi => by
    cases i with
    | zero =>
      cases hi
      refine ⟨hP, fun b hb => ⟨fun e => ?_, ?_⟩⟩
      · obtain ⟨o, hL⟩ := S.alive
        have := hf b hb
        rw [e, hL] at this; cases this
      · cases q : h₀.get? b with
        | none => rfl
        | some o' => have := hf b hb; rw [S.keep _ _ q] at this; cases this
    | succ i => exact (S.kept k).led i r' hi
  dj := fun i j r₁ r₂ hij hi hj b hb hb' => by
    cases i with
    | zero =>
      cases hi
      cases j with
      | zero => exact hij rfl
      | succ j =>
        obtain ⟨o, q⟩ := r₂.al _ (S.led j r₂ hj).1 b hb'
        rw [hf b hb] at q; cases q
    | succ i =>
      cases j with
      | zero =>
        cases hj
        obtain ⟨o, q⟩ := r₁.al _ (S.led i r₁ hi).1 b hb
        rw [hf b hb'] at q; cases q
      | succ j => exact S.dj i j r₁ r₂ (fun e => hij (by rw [e])) hi hj b hb hb'
theorem Fm.drop (S : Fm w h₀ L ks vs σ h) (n : Nat) : Fm w h₀ L ks vs (σ.drop n) h where
  top := S.top
  keep := S.keep
  ns := S.ns
  fresh := S.fresh
  led := fun i r hi => S.led (n + i) r (by rw [List.getElem?_drop] at hi; exact hi)
  dj := fun i j r r' hij hi hj => S.dj (n + i) (n + j) r r' (fun e => hij (Nat.add_left_cancel e)) (by rw [List.getElem?_drop] at hi; exact hi) (by rw [List.getElem?_drop] at hj; exact hj)
/-- one part is turned -/
theorem Fm.put (S : Fm w h₀ L ks vs σ h) (i : Nat) {r : Reg} (hi : σ[i]? = some r) (r' : Reg) (hs : ∀ b o, b ∉ r.fp → h.get? b = some o → h'.get? b = some o) (hP : r'.P h')
    (hn : ∀ b ∈ r'.fp, b ∈ r.fp ∨ h.get? b = none) : Fm w h₀ L ks vs (σ.set i r') h' := by
  have hlt : i < σ.length := (List.getElem?_eq_some_iff.mp hi).1
  have old := S.led i r hi
  have get : ∀ j q, (σ.set i r')[j]? = some q → (j = i ∧ q = r') ∨ (j ≠ i ∧ σ[j]? = some q) := fun j q e => by
    rw [List.getElem?_set] at e
    by_cases hj : i = j
    · subst hj; rw [if_pos rfl, if_pos hlt] at e; exact .inl ⟨rfl, (Option.some.inj e).symm⟩
    · rw [if_neg hj] at e; exact .inr ⟨fun q => hj q.symm, e⟩
  have hk : ∀ b o, b ∉ r.fp → h.get? b = some o → h'.get? b = some o := hs
  have new : ∀ b ∈ r'.fp, b ≠ L ∧ h₀.get? b = none ∧ ∀ j q, j ≠ i → σ[j]? = some q → b ∉ q.fp := fun b hb => by
    rcases hn b hb with hb | hb
    · exact ⟨(old.2 b hb).1, (old.2 b hb).2, fun j q hj hq hb' => S.dj i j r q (fun e => hj e.symm) hi hq b hb hb'⟩
    · refine ⟨fun e => ?_, ?_, fun j q hj hq hb' => ?_⟩
      · obtain ⟨o, hL⟩ := S.alive
        rw [e, hL] at hb; cases hb
      · cases q : h₀.get? b with
        | none => rfl
        | some o' => rw [S.keep _ _ q] at hb; cases hb
      · obtain ⟨o, e⟩ := q.al _ (S.led j q hq).1 b hb'
        rw [hb] at e; cases e
  refine ⟨S.top, fun b o e => hk b o (fun hb => ?_) (S.keep b o e), S.ns.at' fun o e => hk L o (fun hb => (old.2 _ hb).1 rfl) e, S.fresh, fun j q hq => ?_, fun j₁ j₂ q₁ q₂ hj h1 h2 b hb hb' => ?_⟩
  · rw [(old.2 b hb).2] at e; cases e
  · rcases get j q hq with ⟨rfl, rfl⟩ | ⟨hj, hq⟩
    · exact ⟨hP, fun b hb => ⟨(new b hb).1, (new b hb).2.1⟩⟩
    · have := S.led j q hq
      exact ⟨q.fr _ _ this.1 fun b hb o e => hk b o (fun hb' => S.dj j i q r hj hq hi b hb hb') e, this.2⟩
  · rcases get j₁ q₁ h1 with ⟨rfl, rfl⟩ | ⟨hj1, h1'⟩
    · rcases get j₂ q₂ h2 with ⟨rfl, rfl⟩ | ⟨hj2, h2⟩
      · exact hj rfl
      · exact (new b hb).2.2 j₂ q₂ hj2 h2 hb'
    · rcases get j₂ q₂ h2 with ⟨rfl, rfl⟩ | ⟨hj2, h2⟩
      · exact (new b hb').2.2 j₁ q₁ hj1 h1' hb
      · exact S.dj j₁ j₂ q₁ q₂ hj h1' h2 b hb hb'
end
theorem fresh_size (h : Heap) : h.get? h.objs.size = none := by
  cases q : h.get? h.objs.size with
  | none => rfl
  | some o => exact absurd (Heap.lt_size q) (Nat.lt_irrefl _)
def rL (a : Addr) (xs : Array Value) : Reg where
  fp := [a]
  P h := h.IsList a xs
  fr := fun h h' p k => p.at fun o e => k a (List.mem_singleton.mpr rfl) o e
  al := fun h p b hb => by rw [List.mem_singleton.mp hb]; exact ⟨_, p.choose_spec.1⟩
def rO (a : Addr) (o : Obj) : Reg where
  fp := [a]
  P h := h.get? a = some o
  fr := fun h h' p k => k a (List.mem_singleton.mpr rfl) o p
  al := fun h p b hb => by rw [List.mem_singleton.mp hb]; exact ⟨_, p⟩
end Mine
end
section
open PySem PySem.W PySem.W.X PyProof.Rows PySem.Calls
set_option maxRecDepth 100000
namespace Mine
abbrev Md (w : World) : Model := model PySem.Challenge.pw_sn0040_01 w
abbrev sh (h : Heap) (g : Array GenState) (d : Drawn) (t : Nat) (os : OsState) : Shared := ⟨h, g, d, t, os⟩

def noDebug (x : Str) : Bool := !(x == ("__debug__" : Str))
/-- a def's scope: its local names ks, the global names gs that it reads -/
def scopeOk (scope : Scope) (ks gs : List Str) : Bool :=
  scope.kind == .function && !scope.isCoroutine && decide ks.Nodup && ks.all (fun x => scope.names.lookup x == some .local && noDebug x) &&
    gs.all (fun x => scope.names.lookup x == some .globalImplicit && noDebug x)
def noCells (scope : Scope) : Bool := scope.names.all fun x => x.2 != .cell
structure EnvOk (env : Env) (L : Addr) (ks gs : List Str) : Prop where
  loc : env.locals = L
  sc : scopeOk env.scope ks gs = true
  glob : env.globals = mainGlobals
  blt : env.builtins = builtinsNs
section
variable {env : Env} {L : Addr} {ks gs : List Str}
theorem scopeOk.kind {scope : Scope} (h : scopeOk scope ks gs = true) : scope.kind = .function := by
  unfold scopeOk at h; simp only [Bool.and_eq_true, beq_iff_eq] at h; exact h.1.1.1.1
theorem scopeOk.co {scope : Scope} (h : scopeOk scope ks gs = true) : scope.isCoroutine = false := by
  unfold scopeOk at h; simp only [Bool.and_eq_true, Bool.not_eq_true'] at h; exact h.1.1.1.2
theorem scopeOk.nd {scope : Scope} (h : scopeOk scope ks gs = true) : ks.Nodup := by
  unfold scopeOk at h; simp only [Bool.and_eq_true, decide_eq_true_eq] at h; exact h.1.1.2
theorem scopeOk.local {scope : Scope} (h : scopeOk scope ks gs = true) {x : Str} (hx : x ∈ ks) : scope.names.lookup x = some .local ∧ (x == ("__debug__" : Str)) = false := by
  unfold scopeOk at h; simp only [Bool.and_eq_true] at h
  have := List.all_eq_true.mp h.1.2 x hx
  simp only [Bool.and_eq_true, beq_iff_eq, noDebug, Bool.not_eq_true'] at this
  exact this
theorem scopeOk.global {scope : Scope} (h : scopeOk scope ks gs = true) {x : Str} (hx : x ∈ gs) : scope.names.lookup x = some .globalImplicit ∧ (x == ("__debug__" : Str)) = false := by
  unfold scopeOk at h; simp only [Bool.and_eq_true] at h
  have := List.all_eq_true.mp h.2 x hx
  simp only [Bool.and_eq_true, beq_iff_eq, noDebug, Bool.not_eq_true'] at this
  exact this
theorem EnvOk.kind (V : EnvOk env L ks gs) : env.scope.kind = .function := (scopeOk.kind V.sc)
theorem EnvOk.plain (V : EnvOk env L ks gs) : (env.scope.kind == .class || (env.scope.kind == .module && env.locals != env.globals)) = false := by
  rw [V.kind]; rfl
theorem EnvOk.inter (V : EnvOk env L ks gs) : interactive env = false := by unfold interactive; rw [V.kind]; rfl
end

section
variable {w : World} {A : Around} {E : Value → Shared → Prop} {h₀ h : Heap} {L : Addr} {ks gs : List Str} {vs : List (Option Value)} {σ : List Reg} {env : Env} {g : Array GenState} {d : Drawn} {t : Nat} {os : OsState}

theorem nm (i : Nat) {x : Str} {pos : Pos} {v : Value} {Q : Value → Shared → Prop} (V : EnvOk env L ks gs) (S : Fm w h₀ L ks vs σ h) (hk : ks[i]? = some x) (hv : vs[i]? = some (some v)) (hq : Q v (sh h g d t os)) :
    wpAny (Md w) A (eval (.Name x pos) env) Q E (sh h g d t os) := by
  have hl := scopeOk.local V.sc (List.mem_of_getElem? hk)
  refine wpAny_Name (wpAny_loadName_local (m := mapOf ks vs) V.kind hl.1 ?_ (mapOf_get (scopeOk.nd V.sc) i hk hv) hq) hl.2
  rw [V.loc]; exact S.ns
theorem ldn (i : Nat) {x : Str} {v : Value} {Q : Value → Shared → Prop} (V : EnvOk env L ks gs) (S : Fm w h₀ L ks vs σ h) (hk : ks[i]? = some x) (hv : vs[i]? = some (some v)) (hq : Q v (sh h g d t os)) :
    wpAny (Md w) A (loadName env x) Q E (sh h g d t os) := by
  have hl := scopeOk.local V.sc (List.mem_of_getElem? hk)
  refine wpAny_loadName_local (m := mapOf ks vs) V.kind hl.1 ?_ (mapOf_get (scopeOk.nd V.sc) i hk hv) hq
  rw [V.loc]; exact S.ns
theorem gl {x : Str} {pos : Pos} {v : Value} {Q : Value → Shared → Prop} (V : EnvOk env L ks gs) (T : Tp w h) (hg : x ∈ gs) (e : nsIn (hd.heap_39 w.params) mainGlobals x = some (some v)) (hq : Q v (sh h g d t os)) :
    wpAny (Md w) A (eval (.Name x pos) env) Q E (sh h g d t os) := by
  have hl := scopeOk.global V.sc hg
  obtain ⟨mg, G⟩ := T.g
  refine Calls.Name_function_global V.kind hl.1 (Calls.loadGlobal_global (mg := mg) ?_ (mg_of T.inK G e) hq) hl.2
  rw [V.glob]; exact G
theorem bi {x : Str} {pos : Pos} {v : Value} {Q : Value → Shared → Prop} (V : EnvOk env L ks gs) (T : Tp w h) (hg : x ∈ gs) (e : nsIn (hd.heap_39 w.params) mainGlobals x = some none) (hb : bootBuiltins x = some v) (hn : x ≠ "__name__") (hq : Q v (sh h g d t os)) :
    wpAny (Md w) A (eval (.Name x pos) env) Q E (sh h g d t os) := by
  have hl := scopeOk.global V.sc hg
  obtain ⟨mg, G⟩ := T.g
  obtain ⟨mb, B, hB⟩ := T.b
  refine Calls.Name_function_global V.kind hl.1 (Calls.loadGlobal_builtin (mg := mg) (mb := mb) ?_ (mg_none_of T.inK G e) ?_ ((hB x hn).trans hb) hq) hl.2
  · rw [V.glob]; exact G
  · rw [V.blt]; exact B
theorem st (i : Nat) {x : Str} {v : Value} {Q : Unit → Shared → Prop} (V : EnvOk env L ks gs) (S : Fm w h₀ L ks vs σ h) (hk : ks[i]? = some x) (hi : (vs[i]?).isSome = true)
    (hq : ∀ h' t', Fm w h₀ L ks (vs.set i (some v)) σ h' → Q () (sh h' g d t' os)) : wpAny (Md w) A (storeName env x v) Q E (sh h g d t os) := by
  have hl := scopeOk.local V.sc (List.mem_of_getElem? hk)
  have hi : i < vs.length := by
    cases q : vs[i]? with
    | none => rw [q] at hi; cases hi
    | some _ => exact (List.getElem?_eq_some_iff.mp q).1
  refine wpAny_storeName_local (m := mapOf ks vs) hl.1 (by rw [V.loc]; exact S.ns) (fun h' hn hs => ?_) V.plain
  rw [V.loc] at hn hs
  rw [mapOf_set (scopeOk.nd V.sc) i hk hi] at hn
  exact hq h' _ (S.store hn hs.extBut)

theorem ci {i : Int} {k : Nat} {pos : Pos} {Q : Value → Shared → Prop} (hq : ∀ tk t', Q (.int i tk) (sh h g d t' os)) : wpAny (Md w) A (eval (.Constant (.int i) k pos) env) Q E (sh h g d t os) := wpAny_Constant_int (hq _ _)
theorem cs {x : Str} {k : Nat} {pos : Pos} {Q : Value → Shared → Prop} (hq : ∀ tk t', Q (.str x tk) (sh h g d t' os)) : wpAny (Md w) A (eval (.Constant (.str x) k pos) env) Q E (sh h g d t os) := wpAny_Constant_str (hq _ _)
theorem cb {b : Bool} {k : Nat} {pos : Pos} {Q : Value → Shared → Prop} (hq : Q (.bool b) (sh h g d t os)) : wpAny (Md w) A (eval (.Constant (.bool b) k pos) env) Q E (sh h g d t os) := wpAny_Constant_bool hq
theorem cn {k : Nat} {pos : Pos} {Q : Value → Shared → Prop} (hq : Q .none (sh h g d t os)) : wpAny (Md w) A (eval (.Constant .none k pos) env) Q E (sh h g d t os) := wpAny_Constant_none hq
end

def retOf : Flow → Value := fun f => match f with | .ret v => v | _ => .none
theorem enter {w : World} {k : Nat} {A : Around} {E : Value → Shared → Prop} {Q : Value → Shared → Prop} {h : Heap} {g : Array GenState} {d : Drawn} {t : Nat} {os : OsState} (o : Ok (k + 1) A) (T : Tp w h)
    {f : Addr} {args : List Value} {name qual : Str} {params : Arguments} {body : List Stmt} {scope : Scope} {dV kV doc pm cdv ct oc : Value} {an od : Option Addr} {osl : Array (Option Value)}
    (ho : (hd.heap_39 w.params).lookup f = some ⟨oc, od, .func (fnOf name qual params body scope dV kV doc pm an cdv ct), osl⟩) (hcd : codeIn (hd.heap_39 w.params) cdv qual = true)
    (ks1 ks2 gs : List Str) (hsc : (scopeOk scope (ks1 ++ ks2) gs && noCells scope && !scope.isGenerator) = true)
    (hb : bindArgs (fnOf name qual params body scope dV kV doc pm an cdv ct) ⟨args, []⟩ = pure (ks1.zip args)) (hl : ks1.length = args.length)
    (hq : ∀ L h₁ t' env, EnvOk env L (ks1 ++ ks2) gs → Fm w h L (ks1 ++ ks2) (args.map some ++ List.replicate ks2.length none) [] h₁ → Ok k (A.deeper env) →
      wpAny (Md w) (A.deeper env) (execs body env) (fun fl s' => Q (retOf fl) s') (fun _ _ => False) (sh h₁ g d t' os)) :
    wpAny (Md w) A (call (.ref f) args) Q E (sh h g d t os) := by
  simp only [Bool.and_eq_true, Bool.not_eq_true'] at hsc
  obtain ⟨⟨hso, hnc⟩, hgn⟩ := hsc
  refine wpAny_call (codeAny_call_def (s := sh h g d t os) (fd := fnOf name qual params body scope dV kV doc pm an cdv ct) (body := body) (binds := ks1.zip args) o.room (T.inK _ _ ho) rfl T.nl (codeRec_of T.inK hcd) rfl (BindsTo.of_eq hb)
    (fun x hx => by have := List.all_eq_true.mp hnc x hx; simpa using this) (fun x hx => ?_) (fun h₁ hns hk => ?_) (scopeOk.co hso) hgn (scopeOk.kind hso))
  · exact (scopeOk.local hso (List.mem_append_left _ (List.of_mem_zip hx).1)).1
  · rw [mapOf_init hl (scopeOk.nd hso)] at hns
    refine wpAny_mono (hq h.objs.size h₁ _ (callEnv (fnOf name qual params body scope dV kV doc pm an cdv ct) h.objs.size f) ⟨rfl, hso, rfl, rfl⟩ ⟨T, hk, hns, fresh_size h, fun i r hi => by simp at hi, fun i j r r' _ hi => by simp at hi⟩ o.deeper) (fun fl s' x => ?_) fun _ _ x => x.elim
    cases fl <;> exact x
end Mine
end
section
open PySem PySem.W PySem.W.X PyProof.Rows PySem.Calls
set_option maxRecDepth 100000
namespace Mine
section
variable {w : World} {A : Around} {E : Value → Shared → Prop} {h : Heap} {env : Env} {g : Array GenState} {d : Drawn} {t : Nat} {os : OsState} {Q : Value → Shared → Prop} {a b : Int} {ta tb : Tok}
theorem addI (hq : ∀ tk t', Q (.int (a + b) tk) (sh h g d t' os)) : wpAny (Md w) A (binaryOp .Add (.int a ta) (.int b tb)) Q E (sh h g d t os) := add_int (hq _ _)
theorem subI (hq : ∀ tk t', Q (.int (a - b) tk) (sh h g d t' os)) : wpAny (Md w) A (binaryOp .Sub (.int a ta) (.int b tb)) Q E (sh h g d t os) := sub_int (hq _ _)
theorem mulI (hm : IntMulOk a b) (hq : ∀ tk t', Q (.int (a * b) tk) (sh h g d t' os)) : wpAny (Md w) A (binaryOp .Mult (.int a ta) (.int b tb)) Q E (sh h g d t os) := mul_int (hq _ _) hm
theorem modI (hb : b ≠ 0) (hq : ∀ tk t', Q (.int (a.fmod b) tk) (sh h g d t' os)) : wpAny (Md w) A (binaryOp .Mod (.int a ta) (.int b tb)) Q E (sh h g d t os) := mod_int' hb (hq _ _)
theorem divI (hb : b ≠ 0) (hp : Builtin.divisionGoesByPylong a b = false) (hq : ∀ tk t', Q (.int (a.fdiv b) tk) (sh h g d t' os)) : wpAny (Md w) A (binaryOp .FloorDiv (.int a ta) (.int b tb)) Q E (sh h g d t os) := floordiv_int hb (hq _ _) (.inl hp)
theorem eqI (hq : Q (.bool (a == b)) (sh h g d t os)) : wpAny (Md w) A (compareOp .Eq (.int a ta) (.int b tb)) Q E (sh h g d t os) := eq_int hq
theorem mulS {x : Str} (hok : MulOk x a) (hq : ∀ tk t', Q (.str (Txt.mul x a) tk) (sh h g d t' os)) : wpAny (Md w) A (binaryOp .Mult (.str x tb) (.int a ta)) Q E (sh h g d t os) := SB.mul hok fun _ _ => hq _ _
theorem addS {x y : Str} (hsz : x.length + y.length ≤ sizeLine) (hq : ∀ tk t', Q (.str (x ++ y) tk) (sh h g d t' os)) : wpAny (Md w) A (binaryOp .Add (.str x ta) (.str y tb)) Q E (sh h g d t os) :=
  SBL.add (fun _ _ _ => hq _ _) hsz
theorem str_beq (x y : Str) : (x.cps.toList == y.cps.toList) = decide (x = y) := by
  obtain ⟨⟨a⟩⟩ := x
  obtain ⟨⟨b⟩⟩ := y
  by_cases h : a = b
  · subst h; simp
  · have : ¬ ((⟨⟨a⟩⟩ : Str) = ⟨⟨b⟩⟩) := fun q => h (by injection q with q; injection q)
    simp [h]
theorem eqS {x y : Str} (hq : Q (.bool (decide (x = y))) (sh h g d t os)) : wpAny (Md w) A (compareOp .Eq (.str x ta) (.str y tb)) Q E (sh h g d t os) :=
  P.eq_str (by rw [str_beq]; exact hq)
theorem itemL {value slice : Expr} {l : Addr} {items : Array Value} {k : Int} {u : Tok} {v : Value} (hl : h.IsList l items) (h0 : 0 ≤ k) (hhi : k < 2 ^ 63) (hx : items[k.toNat]? = some v) (hq : Q v (sh h g d t os))
    (hs : subscripted slice false (.ref l) (.int k u) = operate [.ref l, .int k u] (getItem (.ref l) (.int k u)) := by with_unfolding_all rfl) :
    wpAny (Md w) A (subscriptTail value slice (.ref l) (.int k u)) Q E (sh h g d t os) :=
  tail_any (s := sh h g d t os) hl.typeIs slot_list_getitem.lookup (wpAny_getItem_list hl h0 hhi hx hq) hs
end
end Mine
end
section
open PySem PySem.W PySem.W.X PyProof.Rows PySem.Calls
set_option maxRecDepth 100000
namespace Mine
def nameS (a b c : Int) : Str := Txt.mul (Str.ofString "r") a ++ Txt.mul (Str.ofString "g") b ++ Txt.mul (Str.ofString "b") c
def nameT (a b c turn : Int) : Str := if turn.fmod 2 == 1 then Txt.upper (nameS a b c) else nameS a b c
theorem nameS_len {a b c : Int} (ha : a ≤ 8) (hb : b ≤ 8) (hc : c ≤ 8) : (nameS a b c).length ≤ 24 := by
  have h1 := len_mul_leN (x := Str.ofString "r") (n := a) (L := 1) (N := 8) (by decide) (by omega)
  have h2 := len_mul_leN (x := Str.ofString "g") (n := b) (L := 1) (N := 8) (by decide) (by omega)
  have h3 := len_mul_leN (x := Str.ofString "b") (n := c) (L := 1) (N := 8) (by decide) (by omega)
  unfold nameS
  rw [Str.length_append, Str.length_append]; omega
theorem lawName {w : World} {k : Nat} {A : Around} {E : Value → Shared → Prop} {Q : Value → Shared → Prop} {h : Heap} {g : Array GenState} {d : Drawn} {t : Nat} {os : OsState} (o : Ok (k + 3) A) (T : Tp w h)
    {l : Addr} {a b c turn : Int} {t1 t2 t3 tt : Tok} (hl : h.IsList l #[.int a t1, .int b t2, .int c t3]) (ha : 0 ≤ a ∧ a ≤ 8) (hb : 0 ≤ b ∧ b ≤ 8) (hc : 0 ≤ c ∧ c ≤ 8)
    (hq : ∀ h' tk t', Keep h h' → Q (.str (nameT a b c turn) tk) (sh h' g d t' os)) :
    wpAny (Md w) A (call (.ref 240) [.ref l, .int turn tt]) Q E (sh h g d t os) := by
  refine' enter (k := k + 2) o T ?ho ?hcd [Str.ofString "counts", Str.ofString "turn"] [Str.ofString "name"] [] ?hsc ?hb ?hl ?_
  case ho => exact rfl
  case hcd => exact rfl
  case hsc => decide +kernel
  case hb => exact rfl
  case hl => exact rfl
  intro L h₁ t₁ env V S o₁
  have hl₁ := hl.at fun o e => S.keep _ _ e
  have h1 := len_mul_leN (x := Str.ofString "r") (n := a) (L := 1) (N := 8) (by decide) (by omega)
  have h2 := len_mul_leN (x := Str.ofString "g") (n := b) (L := 1) (N := 8) (by decide) (by omega)
  have h3 := len_mul_leN (x := Str.ofString "b") (n := c) (L := 1) (N := 8) (by decide) (by omega)
  have hn := nameS_len ha.2 hb.2 hc.2
  refine wpAny_execs_cons (wpAny_Assign_Name (wpAny_BinOp (wpAny_BinOp (wpAny_BinOp (cs fun k1 t2 => Subscript_ (nm 0 V S rfl rfl (ci fun k2 t3 => itemL hl₁ (by decide) (by decide) rfl ?_)))))))
  refine mulS (mulOk_of 1 8 (by decide) (by omega) (by omega) (by decide) (by decide)) fun k3 t4 => ?_
  refine wpAny_BinOp (cs fun k1 t2 => Subscript_ (nm 0 V S rfl rfl (ci fun k2 t3 => itemL hl₁ (by decide) (by decide) rfl ?_)))
  refine mulS (mulOk_of 1 8 (by decide) (by omega) (by omega) (by decide) (by decide)) fun k5 t5 => ?_
  refine addS (by rw [sizeLine_eq]; omega) fun k6 t6 => ?_
  refine wpAny_BinOp (cs fun k1 t2 => Subscript_ (nm 0 V S rfl rfl (ci fun k2 t3 => itemL hl₁ (by decide) (by decide) rfl ?_)))
  refine mulS (mulOk_of 1 8 (by decide) (by omega) (by omega) (by decide) (by decide)) fun k7 t7 => ?_
  refine addS (by rw [Str.length_append, sizeLine_eq]; omega) fun k8 t8 => ?_
  refine st 2 V S rfl rfl fun h₂ t₂ S => ?_
  refine wpAny_execs_cons (wpAny_Return_some (wpAny_IfExp (wpAny_isTrue_Compare1 (wpAny_BinOp (nm 1 V S rfl rfl (ci fun k9 t9 => modI (by decide) fun k10 t10 => ci fun k11 t11 => eqI (wpAny_truthy_bool ?_)))))))
  unfold nameT at hq
  cases hturn : (turn.fmod 2 == 1) with
  | true =>
    rw [hturn] at hq
    refine Call_method0 rfl rfl (nm 2 V S rfl rfl (SBL.upper (by show (nameS a b c).length ≤ _; omega) fun _ => ?_))
    exact hq _ _ _ S.keep
  | false =>
    rw [hturn] at hq
    exact nm 2 V S rfl rfl (hq _ _ _ S.keep)
end Mine
end
section
open PySem PySem.W PySem.W.X PyProof.Rows PySem.Calls
set_option maxRecDepth 100000
namespace Mine
/-- what _iter_escaped_chars tells: each sign's last place, and the sign -/
def escL : List Nat → Nat → Bool → List (Nat × Str)
  | [], i, true => [(i - 1, ⟨#[92]⟩)]
  | [], _, false => []
  | c :: cs, i, true => (i, ⟨#[92, c]⟩) :: escL cs (i + 1) false
  | c :: cs, i, false => if c = 92 then escL cs (i + 1) true else (i, ⟨#[c]⟩) :: escL cs (i + 1) false

/-- from s to s' nothing is turned but the objects at fp other than a -/
def Mv (a : Addr) (fp : List Addr) (s s' : Shared) : Prop := (∀ b o, (b ∉ fp ∨ b = a) → s.heap.get? b = some o → s'.heap.get? b = some o) ∧ s'.gens = s.gens ∧ s'.drawn = s.drawn ∧ s'.os = s.os
theorem Mv.refl (a : Addr) (fp : List Addr) (s : Shared) : Mv a fp s s := ⟨fun _ _ _ e => e, rfl, rfl, rfl⟩
theorem Mv.step {a : Addr} {fp : List Addr} {s : Shared} {h : Heap} {g : Array GenState} {d : Drawn} {t : Nat} {os : OsState} (x : Mv a fp s (sh h g d t os)) {h' : Heap} {t' : Nat} (k : ∀ b o, (b ∉ fp ∨ b = a) → h.get? b = some o → h'.get? b = some o) : Mv a fp s (sh h' g d t' os) :=
  ⟨fun b o hb e => k b o hb (x.1 b o hb e), x.2.1, x.2.2.1, x.2.2.2⟩
def Bd (fp : List Addr) (h : Heap) : Prop := ∀ b ∈ fp, b < h.objs.size
/-- the last of fp stands -/
def Mx (fp : List Addr) (h : Heap) : Prop := ∃ e ∈ fp, (∃ o, h.get? e = some o) ∧ ∀ b ∈ fp, b ≤ e
theorem Mx.bd {fp : List Addr} {h : Heap} (x : Mx fp h) : Bd fp h := let ⟨_, _, ⟨_, z⟩, y⟩ := x; fun b hb => Nat.lt_of_le_of_lt (y b hb) (Heap.lt_size z)
theorem Mx.same {fp : List Addr} {h h' : Heap} (x : Mx fp h) (s : Same fp h h') : Mx fp h' := let ⟨e, he, ⟨o, z⟩, y⟩ := x; ⟨e, he, ⟨o, s e he o z⟩, y⟩

abbrev tupleObj (xs : Array Value) : Obj := { cls := .type "tuple", data := .seq xs }
def Yp (a : Addr) (items : List (Nat × Str)) (fp : List Addr) : Protocol := fun n s₀ v s' kap =>
  ∃ (T : Addr) (i : Nat) (u : Str) (tk tu : Tok), items[items.length - 1 - n]? = some (i, u) ∧ v = .ref T ∧ s'.heap.get? T = some (tupleObj #[.int i tk, .str u tu]) ∧ s₀.heap.get? T = none ∧ T ∉ fp ∧ Mv a fp s₀ s' ∧ Mx fp s'.heap ∧
    ∀ s'', Same fp s'.heap s''.heap → kap (.send .none) s''
def Rp (a : Addr) (fp : List Addr) : GenEnd := fun n s₀ r s' => r = .ok (.ret .none) ∧ n = 0 ∧ Mv a fp s₀ s'

abbrev ksE : List Str := [Str.ofString "addr", Str.ofString "pos", Str.ofString "escape", Str.ofString "ch"]
structure GLoop (L e it : Addr) (x : Str) (tx : Tok) (i : Nat) (b : Bool) (h : Heap) : Prop where
  ns : ∃ av pv cv, h.Ns L (mapOf ksE [av, pv, some (.bool b), cv]) ∧ (i ≠ 0 → ∃ tk, pv = some (.int ((i : Int) - 1) tk))
  en : ∃ old, IsEnum h e it i old
  si : h.IsStrIter it "str_ascii_iterator" x tx i
theorem GLoop.same {L e it : Addr} {x : Str} {tx : Tok} {i : Nat} {b : Bool} {h h' : Heap} {fp : List Addr} (G : GLoop L e it x tx i b h) (hL : L ∈ fp) (he : e ∈ fp) (hi : it ∈ fp) (k : Same fp h h') : GLoop L e it x tx i b h' where
  ns := let ⟨a, p, c, n, r⟩ := G.ns; ⟨a, p, c, n.at' fun o q => k L hL o q, r⟩
  en := let ⟨o, q⟩ := G.en; ⟨o, k e he _ q⟩
  si := let ⟨o, q, r⟩ := G.si; ⟨o, k it hi _ q, r⟩

section
variable {w : World} {A : Around} {E : Value → Shared → Prop} {h : Heap} {L : Addr} {ks gs : List Str} {vs : List (Option Value)} {env : Env} {g : Array GenState} {d : Drawn} {t : Nat} {os : OsState}
theorem nmN (i : Nat) {x : Str} {pos : Pos} {v : Value} {Q : Value → Shared → Prop} (V : EnvOk env L ks gs) (S : h.Ns L (mapOf ks vs)) (hk : ks[i]? = some x) (hv : vs[i]? = some (some v)) (hq : Q v (sh h g d t os)) :
    wpAny (Md w) A (eval (.Name x pos) env) Q E (sh h g d t os) := by
  have hl := scopeOk.local V.sc (List.mem_of_getElem? hk)
  refine wpAny_Name (wpAny_loadName_local (m := mapOf ks vs) V.kind hl.1 ?_ (mapOf_get (scopeOk.nd V.sc) i hk hv) hq) hl.2
  rw [V.loc]; exact S
theorem stN' (i : Nat) {x : Str} {v : Value} {Q : Unit → Shared → Prop} (V : EnvOk env L ks gs) (S : h.Ns L (mapOf ks vs)) (hk : ks[i]? = some x) (hi : (vs[i]?).isSome = true)
    (hq : ∀ h' t', h'.Ns L (mapOf ks (vs.set i (some v))) → Heap.SameBut L h h' → Q () (sh h' g d t' os)) : wpAny (Md w) A (storeName env x v) Q E (sh h g d t os) := by
  have hl := scopeOk.local V.sc (List.mem_of_getElem? hk)
  have hi : i < vs.length := by
    cases q : vs[i]? with
    | none => rw [q] at hi; cases hi
    | some _ => exact (List.getElem?_eq_some_iff.mp q).1
  refine wpAny_storeName_local (m := mapOf ks vs) hl.1 (by rw [V.loc]; exact S) (fun h' hn hs => ?_) V.plain
  rw [V.loc] at hn hs
  rw [mapOf_set (scopeOk.nd V.sc) i hk hi] at hn
  exact hq h' _ hn hs
end

section
variable {w : World} {A : Around} {env : Env} {L e it : Addr} {gs : List Str} {x : Str} {tx : Tok} {fp : List Addr} {items : List (Nat × Str)}
  {p1 p2 p3 p4 p5 p6 p7 p8 p9 p10 p11 p12 p13 p14 p15 p16 p17 p18 p19 p20 p21 p22 p23 p24 p25 : Pos}

/-- the loop's body: if escape: yield (pos, '\\' + ch); escape = False / elif ch == '\\': escape = True / else: yield (pos, ch) -/
abbrev bodyE (p1 p2 p3 p4 p5 p6 p7 p8 p9 p10 p11 p12 p13 p14 p15 p16 p17 p18 p19 p20 p21 p22 p23 p24 p25 : Pos) : List Stmt :=
  [.If (.Name (Str.ofString "escape") p1)
    [.Expr (.Yield (some (.Tuple [.Name (Str.ofString "pos") p2, .BinOp (.Constant (.str (Str.ofString "\\")) 0 p3) .Add (.Name (Str.ofString "ch") p4) p5] 0 p6)) p7) p8,
     .Assign [.Name (Str.ofString "escape") p9] (.Constant (.bool false) 0 p10) p11]
    [.If (.Compare (.Name (Str.ofString "ch") p12) [.Eq] [.Constant (.str (Str.ofString "\\")) 0 p13] p14)
      [.Assign [.Name (Str.ofString "escape") p15] (.Constant (.bool true) 0 p16) p17]
      [.Expr (.Yield (some (.Tuple [.Name (Str.ofString "pos") p18, .Name (Str.ofString "ch") p19] 0 p20)) p21) p22] p23] p24]

theorem seg_If {M : Model} {R : GenEnd} {Y : Protocol} {n : Nat} {s₀ : Shared} {c : Code} {fs : List Frame} {s : Shared} {K : Flow → Sem Fin} {H : Value → Sem Fin} {gd : Bool → Bool} {lv : List Value → List Value} {test : Expr} {body orelse : List Stmt} {pos : Pos}
    (h : wpAny M (A.over c fs) (isTrue test env (eval test env)) (fun b s' => Seg M A R Y n s₀ c ((if b then execs body env else execs orelse env).wrap K H gd lv) fs s') (fun x s' => Seg M A R Y n s₀ c (H x) fs s') s) :
    Seg M A R Y n s₀ c ((exec (.If test body orelse pos) env).wrap K H gd lv) fs s := by
  rw [exec_If]
  refine seg_bind_wrap (wpAny_standAt ?_)
  exact seg_bind_wrap h

theorem drop_step {α : Type} {items l : List α} {a : α} (h : items.drop (items.length - (l.length + 1)) = a :: l) (hle : l.length + 1 ≤ items.length) :
    items[items.length - 1 - l.length]? = some a ∧ items.drop (items.length - l.length) = l := by
  have e1 : items.length - 1 - l.length = items.length - (l.length + 1) := by omega
  have e2 : items.length - l.length = (items.length - (l.length + 1)) + 1 := by omega
  constructor
  · rw [e1]
    have := congrArg (fun z => z[0]?) h
    simpa using this
  · rw [e2, ← List.drop_drop, h]; rfl
theorem mkTup {w : World} {A : Around} {E : Value → Shared → Prop} {h : Heap} {g : Array GenState} {d : Drawn} {t : Nat} {os : OsState} {vs : List Value} {Q : Value → Shared → Prop}
    (hq : Q (.ref h.objs.size) (sh (h.push (tupleObj vs.toArray)) g d t os)) (hsz : vs.length ≤ sizeLine) : wpAny (Md w) A (newTuple vs) Q E (sh h g d t os) :=
  wpAny_newObj_type hq (by show vs.toArray.size ≤ sizeLine; rw [List.size_toArray]; exact hsz)
theorem back_eq : Str.ofString "\\" = ⟨#[92]⟩ := by decide
theorem back_app (c : Nat) : Str.ofString "\\" ++ (⟨#[c]⟩ : Str) = ⟨#[92, c]⟩ := by rw [back_eq]; rfl
theorem seg_loop {a : Addr} (haL : a ≠ L) (hae : a ≠ e) (hai : a ≠ it) (oA : A.handled = none) (V : EnvOk env L ksE gs) (hLe : L ≠ e) (hLi : L ≠ it) (hei : e ≠ it) (hmax : ∀ b ∈ fp, b ≤ e) (hL : L ∈ fp) (he : e ∈ fp) (hi : it ∈ fp) 
    {kk : Result → Sem Fin} {lv : List Value} {fb : List Stmt} {pp pt pa pb : Pos}
    (hend : ∀ s₀ s b, (∃ av pv cv, s.heap.Ns L (mapOf ksE [av, pv, some (.bool b), cv]) ∧ (x.cps.size ≠ 0 → ∃ tk, pv = some (.int ((x.cps.size : Int) - 1) tk))) → Mv a fp s₀ s → (∃ o, s.heap.get? e = some o) →
      items.drop (items.length - (escL [] x.cps.size b).length) = escL [] x.cps.size b → (escL [] x.cps.size b).length ≤ items.length →
      Seg (Md w) A (Rp a fp) (Yp a items fp) (escL [] x.cps.size b).length s₀ (.func fb env) (kk (.ok .next)) [] s) :
    ∀ (cs : List Nat) (i : Nat) (b : Bool) (s₀ s : Shared), x.cps.toList.drop i = cs → i ≤ x.cps.size → GLoop L e it x tx i b s.heap → Mv a fp s₀ s →
      items.drop (items.length - (escL cs i b).length) = escL cs i b → (escL cs i b).length ≤ items.length →
      Seg (Md w) A (Rp a fp) (Yp a items fp) (escL cs i b).length s₀ (.forLoop (.Tuple [.Name (Str.ofString "pos") pa, .Name (Str.ofString "ch") pb] 0 pt) (.ref e) (bodyE p1 p2 p3 p4 p5 p6 p7 p8 p9 p10 p11 p12 p13 p14 p15 p16 p17 p18 p19 p20 p21 p22 p23 p24 p25) [] env)
        ((Md w).den (.forLoop (.Tuple [.Name (Str.ofString "pos") pa, .Name (Str.ofString "ch") pb] 0 pt) (.ref e) (bodyE p1 p2 p3 p4 p5 p6 p7 p8 p9 p10 p11 p12 p13 p14 p15 p16 p17 p18 p19 p20 p21 p22 p23 p24 p25) [] env))
        [.ret kk none false lv (.func fb env) pp []] s := by
  have offL : ∀ b, (b ∉ fp ∨ b = a) → b ≠ L := fun b hb y => hb.elim (fun z => z (y ▸ hL)) fun z => haL (z ▸ y)
  have offI : ∀ b, (b ∉ fp ∨ b = a) → b ≠ it := fun b hb y => hb.elim (fun z => z (y ▸ hi)) fun z => hai (z ▸ y)
  have offE : ∀ b, (b ∉ fp ∨ b = a) → b ∉ [e, it] := fun b hb y => by
    rcases List.mem_cons.mp y with y | y
    · exact hb.elim (fun z => z (y ▸ he)) fun z => hae (z ▸ y)
    · exact offI b hb (List.mem_singleton.mp y)
  intro cs
  induction cs with
  | nil =>
    intro i b s₀ s hcs hsz G hm hit hle
    have hin : i = x.cps.size := by
      have := congrArg List.length hcs
      simp at this; omega
    subst hin
    obtain ⟨h, g, d, t, os⟩ := s
    show Seg _ A _ _ _ s₀ _ ((forTurn _ _ _ _ _).onRaise _) _ _
    unfold forTurn
    rw [Sem.onRaise_eq_wrap]
    refine seg_bind_wrap (wpAny_standAt ?_)
    obtain ⟨old, hen⟩ := G.en
    refine seg_bind_wrap (wpAny_onRaise (wpAny_pyNext_enum_endD (Draws.strAscii (prog := PySem.Challenge.pw_sn0040_01) (w := w) (by exact oA) it x tx) hen G.si fun h₁ hk₁ => ?_))
    dsimp only
    refine seg_again rfl ?_
    show Seg _ A _ _ _ s₀ _ (((execs [] env).onRaise (fun x => do noteFrame x env; theTreesLotGoes x)) >>= fun f => pure (.done f)) _ _
    rw [Sem.onRaise_eq_wrap, Sem.bind_eq_wrap', Sem.wrap_wrap]
    refine seg_execs_nil ?_
    refine seg_leaf (.ok .next) ?_
    obtain ⟨av, pv, cv, hn, hp⟩ := G.ns
    refine hend s₀ _ b ⟨av, pv, cv, hn.at' fun o q => hk₁ _ o hLi q, hp⟩ (hm.step fun b o hb q => hk₁ b o (offI _ hb) q) ⟨_, hk₁ e _ hei hen⟩ hit hle
  | cons c cs ih =>
    intro i b s₀ s hcs hsz G hm hit hle
    obtain ⟨h, g, d, t, os⟩ := s
    show Seg _ A _ _ _ s₀ _ ((forTurn _ _ _ _ _).onRaise _) _ _
    unfold forTurn
    rw [Sem.onRaise_eq_wrap]
    refine seg_bind_wrap (wpAny_standAt ?_)
    have hlt : i < x.cps.size := by
      have := congrArg List.length hcs
      simp at this; omega
    have hc : x.cps[i]? = some c := by
      have : (x.cps.toList.drop i)[0]? = some c := by rw [hcs]; rfl
      simpa using this
    have W := fun (A' : Around) (hA : A'.handled = none) => WalksT.enumerateD (prog := PySem.Challenge.pw_sn0040_01) (w := w) (A := A') (Draws.strAscii (A := A'.in1) hA it x tx) e hei (by simpa using hei) (by simp)
    refine seg_bind_wrap (wpAny_onRaise ((W _ (by exact oA)).item i _ _ _ hlt ⟨G.en, G.si⟩ fun T vals h₁ tk₁ hP hTs hT hmid hk₁ => ?_))
    obtain ⟨ti, xv, ⟨c', u, hc', rfl⟩, rfl⟩ := hP
    rw [hc] at hc'
    cases hc'
    dsimp only
    refine seg_bind_wrap ((W _ (by exact oA)).go _ _ _ i T _ _ _ hmid fun h₂ hst₂ hk₂ => ?_)
    have hT₂ : h₂.IsTuple T #[.int i ti, .str ⟨#[c]⟩ u] := let ⟨o, q, r⟩ := hT; ⟨o, hk₂ _ o ((W _ (by exact oA)).apart i T _ hmid) q, r⟩
    refine seg_bind_wrap (wpAny_assign_Tuple (by exact oA) hT₂ rfl rfl fun h₃ hx₃ => ?_)
    have k₃ : Keep h₂ h₃ := fun b o q => hx₃ b o (Nat.ne_of_lt (Heap.lt_size q)) q
    obtain ⟨av, pv, cv, hn, hp⟩ := G.ns
    have hLw : L ∉ [e, it] := by simp [hLe, hLi]
    have hn₃ : h₃.Ns L (mapOf ksE [av, pv, some (.bool b), cv]) := (hn.at' fun o q => k₃ _ o (hk₂ _ o hLw (hk₁ _ o hLw q)))
    show wpAny _ _ (do holding [_] (assign (.Name (Str.ofString "pos") pa) env (.int i ti)); do holding [] (assign (.Name (Str.ofString "ch") pb) env (.str ⟨#[c]⟩ u)); pure ()) _ _ (sh h₃ g d tk₁ os)
    refine wpAny_bind (wpAny_holding (wpAny_assign_Name (stN' 1 V hn₃ rfl rfl fun h₄ t₄ hn₄ hs₄ => ?_)))
    refine wpAny_bind (wpAny_holding (wpAny_assign_Name (stN' 3 V hn₄ rfl rfl fun h₅ t₅ hn₅ hs₅ => wpAny_pure ?_)))
    have up : ∀ b o, b ≠ L → h₂.get? b = some o → h₅.get? b = some o := fun b o hb q => hs₅.extBut b o hb (hs₄.extBut b o hb (k₃ b o q))
    have hen₅ : ∃ old, IsEnum h₅ e it (↑(i + 1)) old := let ⟨o, q⟩ := hst₂.1; ⟨o, up _ _ hLe.symm q⟩
    have hsi₅ : h₅.IsStrIter it "str_ascii_iterator" x tx (i + 1) := let ⟨o, q, r⟩ := hst₂.2; ⟨o, up _ _ hLi.symm q, r⟩
    have hm₅ : Mv a fp s₀ (sh h₅ g d t₅ os) := hm.step fun b o hb q => up b o (offL _ hb) (hk₂ b o (offE _ hb) (hk₁ b o (offE _ hb) q))
    have hmx₅ : Mx fp h₅ := let ⟨o, q⟩ := hen₅; ⟨e, he, ⟨_, q⟩, hmax⟩
    have hbd₅ : Bd fp h₅ := hmx₅.bd
    have hfresh : s₀.heap.get? h₅.objs.size = none := by
      cases q : s₀.heap.get? h₅.objs.size with
      | none => rfl
      | some o =>
        by_cases hb : h₅.objs.size ∈ fp
        · exact absurd (hbd₅ _ hb) (Nat.lt_irrefl _)
        · exact absurd (Heap.lt_size (hm₅.1 _ _ (.inl hb) q)) (Nat.lt_irrefl _)
    have hTfp : h₅.objs.size ∉ fp := fun hb => by exact absurd (hbd₅ _ hb) (Nat.lt_irrefl _)
    clear hst₂ hmid hT hT₂ hk₁ hk₂ hx₃ k₃ hn₃ hn₄ hs₄ hs₅ up hn hp
    have hcs' : x.cps.toList.drop (i + 1) = cs := by rw [← List.drop_drop, hcs]; rfl
    rw [Sem.bind_eq_wrap', Sem.wrap_wrap]
    refine seg_execs_cons (seg_If (wpAny_isTrue_value (nmN 2 V hn₅ rfl rfl (wpAny_truthy_bool ?_))))
    have rec' : ∀ b' s₀ s, GLoop L e it x tx (i + 1) b' s.heap → Mv a fp s₀ s → items.drop (items.length - (escL cs (i + 1) b').length) = escL cs (i + 1) b' → (escL cs (i + 1) b').length ≤ items.length → _ :=
      fun b' s₀ s => ih (i + 1) b' s₀ s hcs' hlt
    have yield_ : ∀ (uu : Str) (rest : List (Nat × Str)) (tu t₆ : Nat), items.drop (items.length - (rest.length + 1)) = (i, uu) :: rest → rest.length + 1 ≤ items.length → ∀ kap : Resume → Shared → Prop,
        (∀ s'', Same fp (h₅.push (tupleObj #[.int i ti, .str uu tu])) s''.heap → kap (.send .none) s'') → Yp a items fp rest.length s₀ (.ref h₅.objs.size) (sh (h₅.push (tupleObj #[.int i ti, .str uu tu])) g d t₆ os) kap := by
      intro uu rest tu t₆ hd hl kap hkap
      exact ⟨_, i, uu, ti, tu, (drop_step hd hl).1, rfl, Heap.get?_push_size _ rfl, hfresh, hTfp, hm₅.step fun b o _ q => Heap.get?_push_of_some _ q, hmx₅.same fun b _ o q => Heap.get?_push_of_some _ q, hkap⟩
    have keepP : ∀ (o : Obj), Same fp h₅ (h₅.push o) := fun o b _ o' q => Heap.get?_push_of_some _ q
    have two : ∀ a b : Value, [a, b].length ≤ sizeLine := fun _ _ => by rw [sizeLine_eq]; exact (by decide : 2 ≤ 16777216)
    cases b with
    | true =>
      rw [if_pos rfl]
      have ds := drop_step hit hle
      refine seg_execs_cons (seg_Expr_Yield (n := (escL cs (i + 1) false).length) rfl rfl rfl (Tuple_ (spliced_more (nmN 1 V hn₅ rfl rfl (spliced_more (wpAny_BinOp (Mine.cs fun k1 t6 => nmN 3 V hn₅ rfl rfl (addS (by rw [back_eq, sizeLine_eq]; exact (by decide : 2 ≤ 16777216)) fun k2 t7 => spliced_none (mkTup ?_ (two _ _)))))))) ) (scopeOk.co V.sc) V.inter)
      intro kap hkap
      rw [back_app]
      refine yield_ ⟨#[92, c]⟩ _ k2 _ hit hle kap fun s'' hsame => hkap .none s'' ?_
      obtain ⟨h₆, g₆, d₆, t₆, os₆⟩ := s''
      have hs₆ : Same fp h₅ h₆ := fun b hb o q => hsame b hb o (keepP _ b hb o q)
      have hn₆ := hn₅.at' fun o q => hs₆ L hL o q
      refine seg_execs_cons (seg_wrap (wpAny_Assign_Name (cb (stN' 2 V hn₆ rfl rfl fun h₇ t₇ hn₇ hs₇ => ?_))))
      refine seg_execs_nil (seg_execs_nil (seg_again rfl ?_))
      have hen₇ : ∃ old, IsEnum h₇ e it (↑(i + 1)) old := let ⟨o, q⟩ := hen₅; ⟨o, hs₇.extBut _ _ hLe.symm (hs₆ e he _ q)⟩
      have hsi₇ : h₇.IsStrIter it "str_ascii_iterator" x tx (i + 1) := let ⟨o, q, r⟩ := hsi₅; ⟨o, hs₇.extBut _ _ hLi.symm (hs₆ it hi _ q), r⟩
      refine rec' false _ _ ⟨⟨_, _, _, hn₇, fun _ => ⟨ti, by simp⟩⟩, hen₇, hsi₇⟩ ((Mv.refl a fp _).step fun b o hb q => hs₇.extBut b o (offL _ hb) q) ds.2 (Nat.le_of_succ_le hle)
    | false =>
      rw [if_neg Bool.false_ne_true]
      refine seg_execs_cons (seg_If (wpAny_isTrue_Compare1 (nmN 3 V hn₅ rfl rfl (Mine.cs fun k1 t6 => eqS (wpAny_truthy_bool ?_)))))
      by_cases hc92 : c = 92
      · have e1 : decide ((⟨#[c]⟩ : Str) = Str.ofString "\\") = true := by rw [hc92, back_eq]; decide
        rw [e1, if_pos rfl]
        have e2 : escL (c :: cs) i false = escL cs (i + 1) true := by simp [escL, hc92]
        rw [e2] at hit hle ⊢
        refine seg_execs_cons (seg_wrap (wpAny_Assign_Name (cb (stN' 2 V hn₅ rfl rfl fun h₇ t₇ hn₇ hs₇ => ?_))))
        refine seg_execs_nil (seg_execs_nil (seg_execs_nil (seg_again rfl ?_)))
        have up₇ : ∀ b o, b ≠ L → h₅.get? b = some o → h₇.get? b = some o := fun b o hb q => hs₇.extBut b o hb q
        refine rec' true _ _ ⟨⟨_, _, _, hn₇, fun _ => ⟨ti, by simp⟩⟩, (let ⟨o, q⟩ := hen₅; ⟨o, up₇ _ _ hLe.symm q⟩), (let ⟨o, q, r⟩ := hsi₅; ⟨o, up₇ _ _ hLi.symm q, r⟩)⟩ (hm₅.step fun b o hb q => up₇ b o (offL _ hb) q) hit hle
      · have e1 : decide ((⟨#[c]⟩ : Str) = Str.ofString "\\") = false := by
          rw [back_eq]
          refine decide_eq_false fun q => hc92 ?_
          injection q with q
          injection q with q
          injection q
        rw [e1, if_neg Bool.false_ne_true]
        have e2 : escL (c :: cs) i false = (i, ⟨#[c]⟩) :: escL cs (i + 1) false := by simp [escL, hc92]
        rw [e2] at hit hle ⊢
        have ds := drop_step hit hle
        refine seg_execs_cons (seg_Expr_Yield (n := (escL cs (i + 1) false).length) rfl rfl rfl (Tuple_ (spliced_more (nmN 1 V hn₅ rfl rfl (spliced_more (nmN 3 V hn₅ rfl rfl (spliced_none (mkTup ?_ (two _ _)))))))) (scopeOk.co V.sc) V.inter)
        intro kap hkap
        refine yield_ ⟨#[c]⟩ _ u _ hit hle kap fun s'' hsame => hkap .none s'' ?_
        obtain ⟨h₆, g₆, d₆, t₆, os₆⟩ := s''
        have hs₆ : Same fp h₅ h₆ := fun b hb o q => hsame b hb o (keepP _ b hb o q)
        have hn₆ := hn₅.at' fun o q => hs₆ L hL o q
        refine seg_execs_nil (seg_execs_nil (seg_execs_nil (seg_again rfl ?_)))
        refine rec' false _ _ ⟨⟨_, _, _, hn₆, fun _ => ⟨ti, by simp⟩⟩, (let ⟨o, q⟩ := hen₅; ⟨o, hs₆ e he _ q⟩), (let ⟨o, q, r⟩ := hsi₅; ⟨o, hs₆ it hi _ q, r⟩)⟩ (Mv.refl a fp _) ds.2 (Nat.le_of_succ_le hle)
end

/-- a generator that _iter_escaped_chars has made: rest is what it is still to tell; fp: its own objects -/
structure Gen (w : World) (A : Around) (a gi : Nat) (fp : List Addr) (rest : List (Nat × Str)) (s : Shared) : Prop where
  isG : s.heap.IsGen a gi
  mem : a ∈ fp
  mx : Mx fp s.heap
  go : ∃ gs, s.gens[gi]? = some gs ∧ ∀ s'' : Shared, Tp w s''.heap → Same fp s.heap s''.heap → ∃ fp' items, (∀ b ∈ fp, b ∈ fp') ∧ (∀ b ∈ fp', b ∈ fp ∨ s''.heap.get? b = none) ∧
    items.drop (items.length - rest.length) = rest ∧ rest.length ≤ items.length ∧ gs.Goes (Md w) A.in1 (Rp a fp') (Yp a items fp') rest.length (.send .none) s''

def OnlyG (gi : Nat) (a b : Array GenState) : Prop := b.size = a.size ∧ ∀ j, j ≠ gi → b[j]? = a[j]?
theorem OnlyG.trans {gi : Nat} {a b c : Array GenState} (x : OnlyG gi a b) (y : OnlyG gi b c) : OnlyG gi a c := ⟨y.1.trans x.1, fun j hj => (y.2 j hj).trans (x.2 j hj)⟩
theorem OnlyG.refl (gi : Nat) (a : Array GenState) : OnlyG gi a a := ⟨rfl, fun _ _ => rfl⟩
theorem OnlyG.setGen (s : Shared) (gi : Nat) (x : GenState) : OnlyG gi s.gens (s.setGen gi x).gens := by
  refine ⟨by simp [Shared.setGen], fun j hj => ?_⟩
  simp only [Shared.setGen, Array.getElem?_setIfInBounds]
  rw [if_neg (fun e => hj e.symm)]

theorem gen_next {w : World} {k : Nat} {A : Around} {a gi : Nat} {fp : List Addr} {rest : List (Nat × Str)} {s : Shared} {Q : Option Value → Shared → Prop} {E : Value → Shared → Prop} (o : Ok (k + 1) A) (Tw : Tp w s.heap) (G : Gen w A a gi fp rest s)
    (hitem : ∀ i u rest', rest = (i, u) :: rest' → ∀ (T : Addr) (tk tu : Tok) fp' s', Gen w A a gi fp' rest' s' → s'.heap.get? T = some (tupleObj #[.int i tk, .str u tu]) → s.heap.get? T = none → T ∉ fp' → (∀ b ∈ fp', b ∈ fp ∨ s.heap.get? b = none) →
      (∀ b o, b ∉ fp → s.heap.get? b = some o → s'.heap.get? b = some o) → OnlyG gi s.gens s'.gens → s'.drawn = s.drawn → s'.os = s.os → Q (some (.ref T)) s')
    (hdone : rest = [] → ∀ s', (∀ b o, b ∉ fp → s.heap.get? b = some o → s'.heap.get? b = some o) → OnlyG gi s.gens s'.gens → s'.gens[gi]? = some .finished → s'.drawn = s.drawn → s'.os = s.os → Q none s') :
    wpAny (Md w) A (pyNext (.ref a)) Q E s := by
  obtain ⟨gs, hgs, hgo⟩ := G.go
  obtain ⟨fp', items, hsub, hnew, hd, hle, hgo⟩ := hgo (s.setGen gi .running) Tw (fun b _ o e => e)
  have up : ∀ {s₁ : Shared}, Mv a fp' (s.setGen gi .running) s₁ → ∀ b o, b ∉ fp → s.heap.get? b = some o → s₁.heap.get? b = some o := fun hm b o hb e => hm.1 b o (.inl fun hb' => by
    rcases hnew b hb' with q | q
    · exact hb q
    · rw [show (s.setGen gi .running).heap.get? b = s.heap.get? b from rfl, e] at q; cases q) e
  refine wpAny_pyNext_gen (P := fun n s₀ s₁ => n = 0 ∧ Mv a fp' s₀ s₁) o.hd Tw.nl o.room G.isG hgs hgo (fun v s₁ gs' hy => ?_) (fun s₁ hp h' hk => ?_)
  · obtain ⟨T, i, u, tk, tu, hi, rfl, hT, hT0, hTf, hm, hmx, hkap⟩ := hy
    cases rest with
    | nil => exact (hkap s₁ fun _ _ _ e => e).elim
    | cons p rest' =>
      obtain ⟨i', u'⟩ := p
      have ds := drop_step hd hle
      have e : (i, u) = (i', u') := by
        have h1 : items[items.length - 1 - rest'.length]? = some (i, u) := hi
        rw [ds.1] at h1
        exact (Option.some.inj h1).symm
      cases e
      have hgen : s₁.gens[gi]? = some .running := by rw [hm.2.1]; exact setGen_self hgs
      have haf : a ∈ fp' := hsub a G.mem
      refine hitem i u rest' rfl T tk tu fp' _ ⟨?_, haf, hmx, gs', setGen_self hgen, fun s'' _ hsame => ⟨fp', items, fun _ h => h, fun _ h => .inl h, ds.2, Nat.le_of_succ_le hle, hkap s'' hsame⟩⟩ hT hT0 hTf hnew (fun b o hb e => up hm b o hb e) ?_ hm.2.2.1 hm.2.2.2
      · obtain ⟨og, nm, qn, hog, r⟩ := G.isG
        exact ⟨og, nm, qn, hm.1 a og (.inr rfl) hog, r⟩
      · refine (OnlyG.setGen s gi .running).trans ?_
        rw [← hm.2.1]
        exact OnlyG.setGen s₁ gi gs'
  · obtain ⟨h0, hm⟩ := hp
    have hr : rest = [] := List.eq_nil_of_length_eq_zero h0
    have hgen : s₁.gens[gi]? = some .running := by rw [hm.2.1]; exact setGen_self hgs
    refine hdone hr _ (fun b o hb e => hk _ _ (up hm b o hb e)) ?_ (setGen_self hgen) hm.2.2.1 hm.2.2.2
    refine (OnlyG.setGen s gi .running).trans ?_
    rw [← hm.2.1]
    exact OnlyG.setGen s₁ gi .finished
end Mine
end
section
open PySem PySem.W PySem.W.X PyProof.Rows PySem.Calls
set_option maxRecDepth 100000
namespace Mine
theorem get_ge {h : Heap} {b : Addr} (hb : h.objs.size ≤ b) : h.get? b = none := by
  cases q : h.get? b with
  | none => rfl
  | some o => exact absurd (Heap.lt_size q) (Nat.not_lt.mpr hb)
/-- what is turned away from the top's objects leaves the top -/
theorem Tp.off {w : World} {h h₀ h₂ : Heap} {L : Addr} (T : Tp w h) (hL : h.get? L = none) (T₀ : Tp w h₀) (hs : Heap.ExtBut L h₀ h₂) : Tp w h₂ where
  inK := fun a o e => hs a o (fun q => by have := T.inK a o e; rw [q, hL] at this; cases this) (T₀.inK a o e)
  g := by
    obtain ⟨m, x⟩ := T₀.g
    obtain ⟨_, _, _, _, q, _⟩ := T.g
    exact ⟨m, x.at' fun o e => hs _ o (fun z => by rw [z, hL] at q; cases q) e⟩
  b := by
    obtain ⟨m, x, y⟩ := T₀.b
    obtain ⟨_, ⟨_, _, _, q, _⟩, _⟩ := T.b
    exact ⟨m, x.at' fun o e => hs _ o (fun z => by rw [z, hL] at q; cases q) e, y⟩
  nl := by
    obtain ⟨m, x, y⟩ := T₀.nl
    obtain ⟨_, ⟨_, _, _, q, _⟩, _⟩ := T.nl
    exact ⟨m, x.at' fun o e => hs _ o (fun z => by rw [z, hL] at q; cases q) e, y⟩
theorem two (a b : Value) : [a, b].length ≤ sizeLine := by rw [sizeLine_eq]; exact (by decide : 2 ≤ 16777216)
theorem ascii_type {x : Str} (hx : x.cps.all (· < 128) = true) : strIterType x = "str_ascii_iterator" := by unfold strIterType; rw [if_pos hx]
theorem enterGen {w : World} {k : Nat} {A : Around} {E : Value → Shared → Prop} {Q : Value → Shared → Prop} {h : Heap} {g : Array GenState} {d : Drawn} {t : Nat} {os : OsState} (o : Ok (k + 1) A) (T : Tp w h)
    {f : Addr} {args : List Value} {name qual : Str} {params : Arguments} {body : List Stmt} {scope : Scope} {dV kV doc pm cdv ct oc : Value} {an od : Option Addr} {osl : Array (Option Value)}
    (ho : (hd.heap_39 w.params).lookup f = some ⟨oc, od, .func (fnOf name qual params body scope dV kV doc pm an cdv ct), osl⟩) (hcd : codeIn (hd.heap_39 w.params) cdv qual = true)
    (ks1 ks2 gs : List Str) (hsc : (scopeOk scope (ks1 ++ ks2) gs && noCells scope && scope.isGenerator) = true)
    (hb : bindArgs (fnOf name qual params body scope dV kV doc pm an cdv ct) ⟨args, []⟩ = pure (ks1.zip args)) (hl : ks1.length = args.length)
    (hq : ∀ L a h' t' env, EnvOk env L (ks1 ++ ks2) gs → Keep h h' → h'.Ns L (mapOf (ks1 ++ ks2) (args.map some ++ List.replicate ks2.length none)) → h.get? L = none → h.get? a = none → h'.IsGen a g.size → L < a →
      Q (.ref a) (sh h' (g.push (.fresh (.func body env))) d t' os)) :
    wpAny (Md w) A (call (.ref f) args) Q E (sh h g d t os) := by
  simp only [Bool.and_eq_true] at hsc
  obtain ⟨⟨hso, hnc⟩, hgn⟩ := hsc
  refine wpAny_call ?_
  refine codeAny_call_generator (s := sh h g d t os) (fd := fnOf name qual params body scope dV kV doc pm an cdv ct) (body := body) o.room (T.inK _ _ ho) rfl (scopeOk.co hso) hgn rfl (codeRec_of T.inK hcd) ?_
  refine wpAny_of_eq hb ?_
  refine wpAny_newFunctionEnv (fun x hx => by have := List.all_eq_true.mp hnc x hx; simpa using this) (fun x hx => (scopeOk.local hso (List.mem_append_left _ (List.of_mem_zip hx).1)).1) (fun h₁ hns hsb => ?_) (scopeOk.kind hso)
  have hsz : h₁.objs.size = h.objs.size + 1 := by rw [hsb.1]; exact Heap.size_push ..
  have k₁ : Keep h h₁ := fun b o e => hsb.extBut b o (Nat.ne_of_lt (Heap.lt_size e)) (Heap.get?_push_of_some _ e)
  rw [mapOf_init hl (scopeOk.nd hso)] at hns
  refine ⟨T.nl.keeps k₁, ?_⟩
  refine hq h.objs.size h₁.objs.size _ _ (newEnv scope h.objs.size mainGlobals [] (qual ++ ".<locals>.") (some f) cdv none builtinsNs) ⟨rfl, hso, rfl, rfl⟩ (k₁.trans (Keep.push _ _)) (hns.push _) (fresh_size h) ?_ ⟨_, _, _, Heap.get?_push_size _ rfl, rfl, rfl, rfl⟩ (by rw [hsz]; exact Nat.lt_succ_self _)
  cases q : h.get? h₁.objs.size with
  | none => rfl
  | some o => exact absurd (Heap.lt_size q) (by rw [hsz]; exact Nat.not_lt.mpr (Nat.le_succ _))

theorem genCall {w : World} {k : Nat} {A : Around} {E : Value → Shared → Prop} {Q : Value → Shared → Prop} {h : Heap} {g : Array GenState} {d : Drawn} {t : Nat} {os : OsState} (o : Ok (k + 3) A) (T : Tp w h) {x : Str} {tx : Tok}
    (hx : x.cps.all (· < 128) = true)
    (hq : ∀ a fp h' t' y, Keep h h' → (∀ A' j, Ok (j + 5) A' → Gen w A' a g.size fp (escL x.cps.toList 0 false) (sh h' (g.push y) d t' os)) → (∀ b ∈ fp, h.get? b = none) → Q (.ref a) (sh h' (g.push y) d t' os)) :
    wpAny (Md w) A (call (.ref 45) [.str x tx]) Q E (sh h g d t os) := by
  refine' enterGen (k := k + 2) o T ?ho ?hcd [Str.ofString "addr"] [Str.ofString "pos", Str.ofString "escape", Str.ofString "ch"] [Str.ofString "enumerate"] ?hsc ?hb ?hl ?_
  case ho => exact rfl
  case hcd => exact rfl
  case hsc => decide +kernel
  case hb => exact rfl
  case hl => exact rfl
  intro L a h' t' env V k₁ hns hL ha hg hLa
  refine hq a [a, L] h' t' _ k₁ (fun A' j o' => ⟨hg, List.mem_cons_self .., ⟨a, List.mem_cons_self .., (let ⟨o, _, _, q, _⟩ := hg; ⟨o, q⟩), fun b hb => ?_⟩, _, Array.getElem?_push_size .., fun s'' T'' hsame => ?_⟩) (fun b hb => ?_)
  · rcases List.mem_cons.mp hb with rfl | hb
    · exact Nat.le_refl _
    · rw [List.mem_singleton.mp hb]; exact Nat.le_of_lt hLa
  · obtain ⟨h₀, g₀, d₀, t₀, os₀⟩ := s''
    have hsL : ∀ o, h'.get? L = some o → h₀.get? L = some o := fun o q => hsame L (by simp) o q
    have hn₀ := hns.at' hsL
    have hLlt : L < h₀.objs.size := hn₀.lt
    have halt : a < h₀.objs.size := by obtain ⟨o, _, _, q, _⟩ := hg; exact Heap.lt_size (hsame a (by simp) o q)
    refine ⟨[a, L, h₀.objs.size + 1, h₀.objs.size], escL x.cps.toList 0 false, ?_, ?_, ?_, Nat.le_refl _, ?_⟩
    · intro b hb; rcases List.mem_cons.mp hb with rfl | hb
      · simp
      · rw [List.mem_singleton.mp hb]; simp
    · intro b hb
      rcases List.mem_cons.mp hb with rfl | hb
      · simp
      · rcases List.mem_cons.mp hb with rfl | hb
        · simp
        · rcases List.mem_cons.mp hb with rfl | hb
          · exact .inr (get_ge (Nat.le_succ _))
          · rw [List.mem_singleton.mp hb]; exact .inr (get_ge (Nat.le_refl _))
    · rw [Nat.sub_self]; rfl
    · refine ⟨rfl, seg_func ?_⟩
      refine seg_execs_cons (seg_wrap (wpAny_Assign_Name (ci fun tk t1 => stN' 1 V hn₀ rfl rfl fun h₁ t₁ hn₁ hs₁ => ?_)))
      refine seg_execs_cons (seg_wrap (wpAny_Assign_Name (cb (stN' 2 V hn₁ rfl rfl fun h₂ t₂ hn₂ hs₂ => ?_))))
      have hs : Heap.SameBut L h₀ h₂ := hs₁.trans hs₂
      have T₂ : Tp w h₂ := T.off hL T'' hs.extBut
      refine seg_execs_cons ?_
      rw [exec_For]
      refine seg_bind_wrap (wpAny_standAt ?_)
      refine seg_bind_wrap (Call_Name1 (bi (v := .type "enumerate") V T₂ (List.mem_singleton.mpr rfl) (by rfl) (by rfl) (by decide) (PySem.callWith_type1 (nmN 0 V hn₂ rfl rfl (call_enumerate_str fun h₃ hen hsi hsz k₃ => ?_)))))
      refine seg_bind_wrap (wpAny_of_eq rfl ?_)
      refine seg_bind_wrap (wpAny_standAt ?_)
      refine seg_bind_wrap (wpAny_holding (wpAny_pyIter_enum hen ?_))
      refine seg_call fun p => ?_
      have h2sz : h₂.objs.size = h₀.objs.size := hs.1
      have hLlt₂ : L < h₂.objs.size := hn₂.lt
      have halt₂ : a < h₂.objs.size := by rw [h2sz]; exact halt
      have ne1 : ∀ {b : Nat}, b < h₂.objs.size → b ≠ h₂.objs.size + 1 := fun hb q => by rw [q] at hb; exact absurd hb (Nat.not_lt.mpr (Nat.le_succ _))
      have ne0 : ∀ {b : Nat}, b < h₂.objs.size → b ≠ h₂.objs.size := fun hb q => by rw [q] at hb; exact absurd hb (Nat.lt_irrefl _)
      have hmax : ∀ b ∈ [a, L, h₂.objs.size + 1, h₂.objs.size], b ≤ h₂.objs.size + 1 := by
        intro b hb
        rcases List.mem_cons.mp hb with rfl | hb
        · exact Nat.le_succ_of_le (Nat.le_of_lt halt₂)
        · rcases List.mem_cons.mp hb with rfl | hb
          · exact Nat.le_succ_of_le (Nat.le_of_lt hLlt₂)
          · rcases List.mem_cons.mp hb with rfl | hb
            · exact Nat.le_refl _
            · rw [List.mem_singleton.mp hb]; exact Nat.le_succ _
      have hfp : [a, L, h₀.objs.size + 1, h₀.objs.size] = [a, L, h₂.objs.size + 1, h₂.objs.size] := by rw [h2sz]
      rw [hfp]
      rw [ascii_type hx] at hsi
      have hG : GLoop L (h₂.objs.size + 1) h₂.objs.size x tx 0 false h₃ := ⟨⟨_, _, _, hn₂.keeps k₃, fun q => absurd rfl q⟩, ⟨_, hen⟩, hsi⟩
      refine seg_loop (p25 := p) (A := A'.in1) (s := sh h₃ g₀ d₀ t₂ os₀) (cs := x.cps.toList) (i := 0) (b := false) (fp := [a, L, h₂.objs.size + 1, h₂.objs.size]) (it := h₂.objs.size) (e := h₂.objs.size + 1) (x := x) (tx := tx) (Nat.ne_of_gt hLa) (ne1 halt₂) (ne0 halt₂) o'.hd V (ne1 hLlt₂) (ne0 hLlt₂) (Nat.ne_of_gt (Nat.lt_succ_self _)) hmax (by simp) (by simp) (by simp) ?_ _ rfl (Nat.zero_le _) hG ?_ (by rw [Nat.sub_self]; rfl) (Nat.le_refl _)
      · intro s₀ s b hnn hm hmx hd hle
        obtain ⟨h₄, g₄, d₄, t₄, os₄⟩ := s
        obtain ⟨av, pv, cv, hn₄, hpv⟩ := hnn
        have hmx₄ : Mx [a, L, h₂.objs.size + 1, h₂.objs.size] h₄ := ⟨_, by simp, hmx, hmax⟩
        change Seg _ _ _ _ _ _ _ (Sem.wrap _ _ id id (execs _ env)) _ _
        refine seg_execs_cons (seg_If (wpAny_isTrue_value (nmN 2 V hn₄ rfl rfl (wpAny_truthy_bool ?_))))
        cases b with
        | false =>
          rw [if_neg Bool.false_ne_true]
          refine seg_execs_nil (seg_execs_nil ?_)
          exact seg_end (.ok (.ret .none)) ⟨rfl, rfl, hm⟩
        | true =>
          have hpos : x.cps.size ≠ 0 := fun q => by
            have e0 : x.cps.toList = [] := List.eq_nil_of_length_eq_zero (by simpa using q)
            rw [e0] at hle
            exact absurd hle (by show ¬ (1 ≤ 0); decide)
          obtain ⟨tk', rfl⟩ := hpv hpos
          rw [if_pos rfl]
          refine seg_execs_cons (seg_Expr_Yield (n := 0) rfl rfl rfl (Tuple_ (spliced_more (nmN 1 V hn₄ rfl rfl (spliced_more (Mine.cs fun k1 t6 => spliced_none (mkTup ?_ (two _ _))))))) (scopeOk.co V.sc) V.inter)
          intro kap hkap
          have ds := drop_step (l := []) hd hle
          refine ⟨_, x.cps.size - 1, ⟨#[92]⟩, tk', k1, ds.1, rfl, ?_, ?_, ?_, ?_, ?_, ?_⟩
          · rw [show ((x.cps.size : Int) - 1) = ((x.cps.size - 1 : Nat) : Int) by omega]
            exact Heap.get?_push_size _ rfl
          · show s₀.heap.get? h₄.objs.size = none
            cases q : s₀.heap.get? h₄.objs.size with
            | none => rfl
            | some o =>
              by_cases hb : h₄.objs.size ∈ [a, L, h₂.objs.size + 1, h₂.objs.size]
              · exact absurd (hmx₄.bd _ hb) (Nat.lt_irrefl _)
              · exact absurd (Heap.lt_size (hm.1 _ _ (.inl hb) q)) (Nat.lt_irrefl _)
          · exact fun hb => by exact absurd (hmx₄.bd _ hb) (Nat.lt_irrefl _)
          · exact hm.step fun b o _ q => Heap.get?_push_of_some _ q
          · exact hmx₄.same fun b _ o q => Heap.get?_push_of_some _ q
          · intro s'' hsame
            refine hkap .none s'' ?_
            refine seg_execs_nil (seg_execs_nil ?_)
            exact seg_end (.ok (.ret .none)) ⟨rfl, rfl, Mv.refl _ _ _⟩
      · exact ⟨fun b o hb q => k₃ b o (hs.2 b (fun z => by rcases hb with hb | hb; exact hb (by rw [z]; simp); rw [hb] at z; exact absurd z (Nat.ne_of_gt hLa)) ▸ q), rfl, rfl, rfl⟩
  · rcases List.mem_cons.mp hb with rfl | hb
    · exact ha
    · rw [List.mem_singleton.mp hb]; exact hL
end Mine
end
section
open PySem PySem.W PySem.W.X PyProof.Rows PySem.Calls
set_option maxRecDepth 100000
namespace Mine

def rP (a : Addr) (xs : Array Value) : Reg where
  fp := [a]
  P h := h.PlainList a xs
  fr := fun h h' p k => p.at fun o e => k a (List.mem_singleton.mpr rfl) o e
  al := fun h p b hb => by rw [List.mem_singleton.mp hb]; exact ⟨_, p.choose_spec⟩
section
variable {w : World} {A : Around} {E : Value → Shared → Prop} {h : Heap} {env : Env} {g : Array GenState} {d : Drawn} {t : Nat} {os : OsState} {Q : Value → Shared → Prop} {a b : Int} {ta tb : Tok}
theorem keptH (h : Heap) : KeptH (Keep h) := fun h' ob k => k.trans (Keep.push h' ob)
theorem cut_ss {x : Str} {tx : Tok} {i j : Int} {ui uj : Tok} (hsz : x.length ≤ sizeLine) (hq : ∀ h' tk t', Keep h h' → Q (.str (Txt.slice x (some i) (some j)) tk) (sh h' g d t' os)) :
    ItemOn (Md w) A E (.str x tx) (.ref h.objs.size) Q (sh (h.push { cls := .type "slice", data := .fields #[.int i ui, .int j uj, .none] }) g d t os) :=
  SBH.sliceItem_ss (s := sh h g d t os) (keptH h) (Keep.refl h) (fun h' t' k kp => hq h' t' k kp) hsz
theorem cut_sn {x : Str} {tx : Tok} {i : Int} {ui : Tok} (hsz : x.length ≤ sizeLine) (hq : ∀ h' tk t', Keep h h' → Q (.str (Txt.slice x (some i) none) tk) (sh h' g d t' os)) :
    ItemOn (Md w) A E (.str x tx) (.ref h.objs.size) Q (sh (h.push { cls := .type "slice", data := .fields #[.int i ui, .none, .none] }) g d t os) :=
  SBH.sliceItem_sn (s := sh h g d t os) (keptH h) (Keep.refl h) (fun h' t' k kp => hq h' t' k kp) hsz
theorem cut_ns {x : Str} {tx : Tok} {j : Int} {uj : Tok} (hsz : x.length ≤ sizeLine) (hq : ∀ h' tk t', Keep h h' → Q (.str (Txt.slice x none (some j)) tk) (sh h' g d t' os)) :
    ItemOn (Md w) A E (.str x tx) (.ref h.objs.size) Q (sh (h.push { cls := .type "slice", data := .fields #[.none, .int j uj, .none] }) g d t os) :=
  SBH.sliceItem_ns (s := sh h g d t os) (keptH h) (Keep.refl h) (fun h' t' k kp => hq h' t' k kp) hsz
theorem ltI (hq : Q (.bool (decide (a < b))) (sh h g d t os)) : wpAny (Md w) A (compareOp .Lt (.int a ta) (.int b tb)) Q E (sh h g d t os) := lt_int hq
theorem neI (hq : Q (.bool (a != b)) (sh h g d t os)) : wpAny (Md w) A (compareOp .NotEq (.int a ta) (.int b tb)) Q E (sh h g d t os) := ne_int hq
theorem isNone_int (hq : Q (.bool false) (sh h g d t os)) : wpAny (Md w) A (compareOp .Is (.int a ta) .none) Q E (sh h g d t os) := wpAny_is_other rfl (by simp) hq
theorem isNone_none (hq : Q (.bool true) (sh h g d t os)) : wpAny (Md w) A (compareOp .Is .none .none) Q E (sh h g d t os) := wpAny_is_self rfl hq
theorem notInS {x y : Str} {tx ty : Tok} (hq : Q (.bool (!Txt.contains x y)) (sh h g d t os)) : wpAny (Md w) A (compareOp .NotIn (.str y ty) (.str x tx)) Q E (sh h g d t os) := SB.notContains hq
theorem lenS {x : Str} {tx : Tok} (hsz : x.length ≤ sizeLine) (hq : ∀ tk t', Q (.int x.length tk) (sh h g d t' os)) : wpAny (Md w) A (call (.builtin "len") [.str x tx]) Q E (sh h g d t os) :=
  PyProof.Rows.len_str (by rw [sizeLine_eq] at hsz; omega) (hq _ _)
theorem newL {vs : List Value} (hsz : vs.length ≤ sizeLine) (hq : Q (.ref h.objs.size) (sh (h.push { cls := .type "list", data := .seq vs.toArray }) g d t os)) : wpAny (Md w) A (newList vs) Q E (sh h g d t os) :=
  wpAny_newObj_type hq (by show vs.toArray.size ≤ sizeLine; rw [List.size_toArray]; exact hsz)
theorem plain_push (h : Heap) (vs : Array Value) : (h.push { cls := .type "list", data := .seq vs }).PlainList h.objs.size vs := ⟨_, Heap.get?_push_size _ rfl⟩
/-- l.append(x) -/
theorem app1 {l : Addr} {items : Array Value} {o e : Expr} {apos pos : Pos}
    (hbase : attributeBase o "append" env (eval o env) = eval o env) (hs : starEach [e] env = [(false, eval e env)]) (hline : (apos.endLine == pos.line) = true) (hsz : items.size ≤ sizeLine)
    (ho : ∀ Q' : Value → Shared → Prop, Q' (.ref l) (sh h g d t os) → wpAny (Md w) A (eval o env) Q' E (sh h g d t os)) (hl : h.PlainList l items)
    (hx : wpAny (Md w) A (eval e env) (fun x s₂ => s₂.heap.PlainList l items ∧ ∀ h', h'.PlainList l (items.push x) → Heap.ExtBut l s₂.heap h' → Q .none { s₂ with heap := h' }) E (sh h g d t os)) :
    wpAny (Md w) A (eval (.Call (.Attribute o "append" apos) [e] [] pos) env) Q E (sh h g d t os) := by
  refine Call_method1 hbase hs hline (ho _ ⟨"list", "list.append", F.plainAttrs_list, slot_list_append, type_list_append, hl.isList.typeIs, fun a e => ?_, ?_⟩)
  · cases e
    obtain ⟨n, e⟩ := hl
    exact ⟨_, e, rfl⟩
  · refine Calls.callWith_builtin rfl (Calls.evalArgs_plain (Calls.spliced_cons (wpAny_mono hx (fun x s₂ hx => Calls.spliced_nil ?_) fun _ _ e => e)))
    exact wpAny_list_append_plain hx.1 (fun h' hl' hs' => hx.2 h' hl' hs'.extBut) hsz
theorem joinR {x : Str} {tx : Tok} {D : Addr} {l : List (Str × Tok)} {texts : List Str} (hl : h.IsList D (strValues l).toArray) (ht : l.map (·.1) = texts) (hok : JoinOk x texts = true)
    (hq : ∀ tk t', Q (.str (Txt.join x texts) tk) (sh h g d t' os)) : wpAny (Md w) A (call (.builtin "str.join") [.str x tx, .ref D]) Q E (sh h g d t os) := SC.join hl ht hok fun _ _ => hq _ _
end
end Mine
end
section
open PySem PySem.W PySem.W.X PyProof.Rows PySem.Calls
set_option maxRecDepth 100000
set_option maxHeartbeats 2000000
namespace Mine

theorem Gen.same {w : World} {A : Around} {a gi : Nat} {fp : List Addr} {rest : List (Nat × Str)} {s s' : Shared} (G : Gen w A a gi fp rest s) (hs : Same fp s.heap s'.heap) (hg : s'.gens = s.gens) : Gen w A a gi fp rest s' where
  isG := let ⟨o, nm, qn, e, r⟩ := G.isG; ⟨o, nm, qn, hs a G.mem o e, r⟩
  mem := G.mem
  mx := G.mx.same hs
  go := by
    obtain ⟨gs, e, f⟩ := G.go
    exact ⟨gs, by rw [hg]; exact e, fun s'' T hs' => f s'' T fun b hb o e => hs' b hb o (hs b hb o e)⟩
def Off (fp : List Addr) (h₀ : Heap) (L : Addr) (σ : List Reg) : Prop := ∀ b ∈ fp, b ≠ L ∧ h₀.get? b = none ∧ ∀ (i : Nat) (r : Reg), σ[i]? = some r → b ∉ r.fp
section
variable {w : World} {A : Around} {E : Value → Shared → Prop} {h₀ h h' : Heap} {L : Addr} {ks gs : List Str} {vs : List (Option Value)} {σ : List Reg} {env : Env} {g : Array GenState} {d : Drawn} {t : Nat} {os : OsState} {fp fp' : List Addr}
theorem Fm.off (S : Fm w h₀ L ks vs σ h) (O : Off fp h₀ L σ) (k : ∀ b o, b ∉ fp → h.get? b = some o → h'.get? b = some o) : Fm w h₀ L ks vs σ h' where
  top := S.top
  keep := fun b o e => k b o (fun hb => by rw [(O b hb).2.1] at e; cases e) (S.keep b o e)
  ns := S.ns.at' fun o e => k L o (fun hb => (O _ hb).1 rfl) e
  fresh := S.fresh
  led := fun i r hi => let ⟨a, c⟩ := S.led i r hi; ⟨r.fr _ _ a fun b hb o e => k b o (fun hb' => (O b hb').2.2 i r hi hb) e, c⟩
  dj := S.dj
theorem Fm.offNew (S : Fm w h₀ L ks vs σ h) (hf : ∀ b ∈ fp, h.get? b = none) : Off fp h₀ L σ := fun b hb => by
  refine ⟨fun e => ?_, ?_, fun i r hi hb' => ?_⟩
  · obtain ⟨o, hL⟩ := S.alive
    have := hf b hb
    rw [e, hL] at this; cases this
  · cases q : h₀.get? b with
    | none => rfl
    | some o' => have := hf b hb; rw [S.keep _ _ q] at this; cases this
  · obtain ⟨o, e⟩ := r.al _ (S.led i r hi).1 b hb'
    rw [hf b hb] at e; cases e
theorem Off.more (S : Fm w h₀ L ks vs σ h) (O : Off fp h₀ L σ) (hf : ∀ b ∈ fp', b ∈ fp ∨ h.get? b = none) : Off fp' h₀ L σ := fun b hb => (hf b hb).elim (O b) fun e => S.offNew (fp := [b]) (fun c hc => by rw [List.mem_singleton.mp hc]; exact e) b (List.mem_singleton.mpr rfl)

theorem stX (i : Nat) {x : Str} {v : Value} {Q : Unit → Shared → Prop} (V : EnvOk env L ks gs) (S : Fm w h₀ L ks vs σ h) (hk : ks[i]? = some x) (hi : (vs[i]?).isSome = true)
    (hq : ∀ h' t', Fm w h₀ L ks (vs.set i (some v)) σ h' → Heap.ExtBut L h h' → Q () (sh h' g d t' os)) : wpAny (Md w) A (storeName env x v) Q E (sh h g d t os) :=
  stN' i V S.ns hk hi fun h' t' hn hs => hq h' t' (S.store hn hs.extBut) hs.extBut
theorem un2 (i j : Nat) {x y : Str} {px py pos : Pos} {k : Nat} {T : Addr} {u v : Value} {Q : Unit → Shared → Prop} (V : EnvOk env L ks gs) (S : Fm w h₀ L ks vs σ h) (ho : A.handled = none) (hT : h.IsTuple T #[u, v])
    (hx : ks[i]? = some x) (hi : (vs[i]?).isSome = true) (hy : ks[j]? = some y) (hj : (vs[j]?).isSome = true)
    (hq : ∀ h' t', Fm w h₀ L ks ((vs.set i (some u)).set j (some v)) σ h' → Heap.ExtBut L h h' → Q () (sh h' g d t' os)) :
    wpAny (Md w) A (assign (.Tuple [.Name x px, .Name y py] k pos) env (.ref T)) Q E (sh h g d t os) := by
  refine wpAny_assign_Tuple ho hT rfl rfl fun h₃ hx₃ => ?_
  have k₃ : Keep h h₃ := fun b o q => hx₃ b o (Nat.ne_of_lt (Heap.lt_size q)) q
  show wpAny _ _ (do holding [_] (assign (.Name x px) env u); holding [] (assign (.Name y py) env v); pure ()) _ _ (sh h₃ g d t os)
  refine wpAny_bind (wpAny_holding (wpAny_assign_Name (stX i V (S.kept k₃) hx hi fun h₄ t₄ S₄ hs₄ => ?_)))
  have hj' : ((vs.set i (some u))[j]?).isSome = true := by
    rw [List.getElem?_set]
    split
    · split <;> simp_all
    · exact hj
  refine wpAny_bind (wpAny_holding (wpAny_assign_Name (stX j V S₄ hy hj' fun h₅ t₅ S₅ hs₅ => wpAny_pure ?_)))
  exact hq h₅ t₅ S₅ fun b o hb q => hs₅ b o hb (hs₄ b o hb (k₃ b o q))
theorem letGo_gen {elts : List Expr} {k : Nat} {pos : Pos} {a gi T : Nat} {Q : Unit → Shared → Prop} {s : Shared} (hg : s.heap.IsGen a gi) (hq : Q () s) : wpAny (Md w) A (letOwnedTupleGo (.Tuple elts k pos) (.ref a) (.ref T)) Q E s := by
  obtain ⟨o, nm, qn, e, hc, hd, r⟩ := hg
  unfold letOwnedTupleGo
  refine wpAny_bind (wpAny_load e ?_)
  rw [hc, hd]
  exact wpAny_pure hq
end
abbrev quote : Str := Str.ofString "\""
/-- what _strip_quoted_realnames does with the units -/
def stripGo (x : Str) : List (Nat × Str) → Nat → Option Nat → List Str → Nat × List Str
  | [], st, _, res => (st, res)
  | (i, u) :: r, st, op, res =>
    if u = quote then
      match op with
      | none => stripGo x r st (some i) res
      | some o => stripGo x r (i + 1) none (if st ≠ o then res ++ [Txt.slice x (some st) (some o)] else res)
    else stripGo x r st op res
def stripC (x : Str) : Str :=
  if Txt.contains x quote = false then x else
    let p := stripGo x (escL x.cps.toList 0 false) 0 none []
    Txt.join (Str.ofString "") (if p.1 < x.length then p.2 ++ [Txt.slice x (some p.1) none] else p.2)
theorem escL_len : ∀ (cs : List Nat) (i : Nat) (b : Bool), (escL cs i b).length ≤ cs.length + 1
  | [], _, true => by simp [escL]
  | [], _, false => by simp [escL]
  | c :: cs, i, true => by have := escL_len cs (i + 1) false; simp [escL]; omega
  | c :: cs, i, false => by
    have h1 := escL_len cs (i + 1) false
    have h2 := escL_len cs (i + 1) true
    unfold escL
    split <;> simp <;> omega
abbrev ksS : List Str := [Str.ofString "addr", Str.ofString "start", Str.ofString "open_pos", Str.ofString "result", Str.ofString "pos", Str.ofString "ch"]
def optI : Option Nat → Tok → Value
  | none, _ => .none
  | some o, tk => .int o tk

/-- the loop's state -/
structure StripI (w : World) (h₀ : Heap) (L D : Addr) (A : Around) (a gi : Nat) (x : Str) (tx : Tok) (fin : Nat × List Str) (g₀ : Array GenState) (d : Drawn) (os : OsState) (n : Nat) (s : Shared) : Prop where
  ex : ∃ (h : Heap) (g : Array GenState) (t : Nat) (rest : List (Nat × Str)) (st : Nat) (op : Option Nat) (res : List Str) (l : List (Str × Tok)) (fp : List Addr) (ts to : Tok) (pv cv : Option Value), s = sh h g d t os ∧ rest.length = n ∧
    Fm w h₀ L ksS [some (.str x tx), some (.int ((st : Nat) : Int) ts), some (optI op to), some (.ref D), pv, cv] [rP D (strValues l).toArray] h ∧ l.map (·.1) = res ∧
    Gen w A a gi fp rest s ∧ Off fp h₀ L [rP D (strValues l).toArray] ∧ OnlyG gi g₀ g ∧ stripGo x rest st op res = fin ∧ res.length + rest.length ≤ x.length + 1 ∧ ∀ y ∈ res, y.length ≤ x.length
theorem stripCall {w : World} {k : Nat} {A : Around} {E : Value → Shared → Prop} {Q : Value → Shared → Prop} {h : Heap} {g : Array GenState} {d : Drawn} {t : Nat} {os : OsState} (o : Ok (k + 8) A) (T : Tp w h) {x : Str} {tx : Tok}
    (hx : x.cps.all (· < 128) = true) (hlen : x.length ≤ 100)
    (hq : ∀ h' g' tk t', Keep h h' → (g' = g ∨ ∃ y, OnlyG g.size (g.push y) g' ∧ g'[g.size]? = some .finished) → Q (.str (stripC x) tk) (sh h' g' d t' os)) :
    wpAny (Md w) A (call (.ref 52) [.str x tx]) Q E (sh h g d t os) := by
  refine' enter (k := k + 7) o T ?ho ?hcd [Str.ofString "addr"] [Str.ofString "start", Str.ofString "open_pos", Str.ofString "result", Str.ofString "pos", Str.ofString "ch"] [Str.ofString "_iter_escaped_chars", Str.ofString "len"] ?hsc ?hb ?hl ?_
  case ho => exact rfl
  case hcd => exact rfl
  case hsc => decide +kernel
  case hb => exact rfl
  case hl => exact rfl
  intro L h₁ t₁ env V S o₁
  have hsz : x.length ≤ sizeLine := by rw [sizeLine_eq]; omega
  refine wpAny_execs_cons (wpAny_If (wpAny_isTrue_Compare1 (cs fun k1 t2 => nm 0 V S rfl rfl (notInS (wpAny_truthy_bool ?_)))))
  cases hc : Txt.contains x quote with
  | false =>
    refine wpAny_execs_cons (wpAny_Return_some (nm 0 V S rfl rfl ?_))
    have : stripC x = x := by unfold stripC; rw [if_pos hc]
    have hq' := hq
    rw [this] at hq'
    exact hq' _ _ _ _ S.keep (.inl rfl)
  | true =>
    refine wpAny_execs_nil ?_
    refine wpAny_execs_cons (wpAny_Assign_Name (ci fun k1 t2 => st 1 V S rfl rfl fun h₂ t₂ S => ?_))
    refine wpAny_execs_cons (wpAny_Assign_Name (cn (st 2 V S rfl rfl fun h₃ t₃ S => ?_)))
    refine wpAny_execs_cons (wpAny_Assign_Name (List_ (spliced_none (newL (Nat.zero_le _) ?_))))
    have S := S.add (Keep.push h₃ _) (rP h₃.objs.size #[]) (plain_push h₃ _) (fun b hb => by rw [List.mem_singleton.mp hb]; exact fresh_size h₃)
    refine st 3 V S rfl rfl fun h₄ t₄ S => ?_
    refine wpAny_execs_cons (wpAny_For (Call_ (gl V S.tp (by decide) rfl (callWith_def rfl (spliced_more (nm 0 V S rfl rfl (spliced_none ⟨S.tp.inK _ _ rfl, ?_⟩)))))))
    refine genCall (k := k + 4) o₁ S.tp hx fun a fp h₅ t₅ y k₅ hG hfp => ?_
    have G := hG (A.deeper env) (k + 2) o₁
    refine wpAny_pyIter_gen G.isG ?_
    refine codeAny_forLoop_any (StripI w h L h₃.objs.size (A.deeper env) a g.size x tx (stripGo x (escL x.cps.toList 0 false) 0 none []) (g.push y) d os) ?_ _
      ⟨_, _, _, _, 0, none, [], [], fp, _, 0, none, none, rfl, rfl, S.kept k₅, rfl, G, S.offNew hfp, OnlyG.refl _ _, rfl, ?_, fun y hy => by simp at hy⟩
    rotate_left
    · have := escL_len x.cps.toList 0 false
      simpa [Str.length] using this
    rintro n s ⟨h₆, g₆, t₆, rest, st, op, res, l, fp, ts, to, pv, cv, rfl, rfl, S, rfl, G, O, hg, hfin, hle, hall⟩
    refine gen_next (k := k + 6) o₁ S.tp G (fun i u rest' hr T tk tu fp' s' G' hT hTf hTn hnew hk hg' hd' hos' => ?_) (fun hr s' hk hg' hfi hd' hos' => ?_)
    · obtain ⟨h₇, g₇, d₇, t₇, os₇⟩ := s'
      subst hd'
      subst hos'
      subst hr
      have S' := S.off O hk
      have O' := O.more S (fp' := fp') hnew
      clear S
      have S := S'
      clear S'
      have hT' : h₇.get? T = some (tupleObj #[.int i tk, .str u tu]) := hT
      refine letGo_gen G'.isG ?_
      refine un2 4 5 V S o₁.hd ⟨_, hT', rfl, 0, rfl⟩ rfl rfl rfl rfl fun h₈ t₈ S hx₈ => ?_
      have G8 : Gen w (A.deeper env) a g.size fp' rest' (sh h₈ g₇ d₇ t₈ os₇) := G'.same (fun b hb o e => hx₈ b o (O' b hb).1 e) rfl
      clear G'
      have hg8 := hg.trans hg'
      refine wpAny_execs_cons (wpAny_If (wpAny_isTrue_Compare1 (nm 5 V S rfl rfl (cs fun k2 t9 => eqS (wpAny_truthy_bool ?_)))))
      by_cases hu : u = quote
      · have hu' : decide (u = quote) = true := decide_eq_true hu
        rw [hu']
        cases op with
        | none =>
          refine wpAny_execs_cons (wpAny_If (wpAny_isTrue_Compare1 (nm 2 V S rfl rfl (cn (isNone_none (wpAny_truthy_bool ?_))))))
          refine wpAny_execs_cons (wpAny_Assign_Name (nm 4 V S rfl rfl (stX 2 V S rfl rfl fun h₉ t₉ S hx₉ => ?_)))
          refine wpAny_execs_nil (wpAny_execs_nil (wpAny_execs_nil ?_))
          refine ⟨rest'.length, Nat.lt_succ_self _, ⟨h₉, g₇, _, rest', st, some i, _, l, fp', ts, tk, _, _, rfl, rfl, S, rfl, G8.same (fun b hb o e => hx₉ b o (O' b hb).1 e) rfl, O', hg8, ?_, ?_, hall⟩⟩
          · rw [← hfin]; exact (by rw [stripGo, if_pos hu])
          · simp only [List.length_map, List.length_cons] at hle ⊢; omega
        | some o =>
          refine wpAny_execs_cons (wpAny_If (wpAny_isTrue_Compare1 (nm 2 V S rfl rfl (cn (isNone_int (wpAny_truthy_bool ?_))))))
          refine wpAny_execs_cons (wpAny_mono (Q := fun f s' => f = Flow.next ∧ ∃ (h₉ : Heap) (t₉ : Nat) (l' : List (Str × Tok)), s' = sh h₉ g₇ d₇ t₉ os₇ ∧ Fm w h L ksS [some (.str x tx), some (.int ((st : Nat) : Int) ts), some (.int o to), some (.ref h₃.objs.size), some (.int i tk), some (.str u tu)] [rP h₃.objs.size (strValues l').toArray] h₉ ∧
              Gen w (A.deeper env) a g.size fp' rest' (sh h₉ g₇ d₇ t₉ os₇) ∧ (if st ≠ o then l.map (·.1) ++ [Txt.slice x (some (st : Int)) (some (o : Int))] else l.map (·.1)) = l'.map (·.1)) (E := fun _ _ => False) ?first ?second (fun _ _ x => x.elim))
          case second =>
            rintro f s' ⟨rfl, h₉, t₉, l', rfl, S, G9, hl'⟩
            refine wpAny_execs_cons (wpAny_Assign_Name (wpAny_BinOp (nm 4 V S rfl rfl (ci fun k3 t10 => addI fun k4 t11 => stX 1 V S rfl rfl fun h₁₀ t₁₂ S hx₁₀ => ?_))))
            refine wpAny_execs_cons (wpAny_Assign_Name (cn (stX 2 V S rfl rfl fun h₁₁ t₁₃ S hx₁₁ => ?_)))
            refine wpAny_execs_nil (wpAny_execs_nil (wpAny_execs_nil ?_))
            refine ⟨rest'.length, Nat.lt_succ_self _, ⟨h₁₁, g₇, _, rest', i + 1, none, _, l', fp', _, 0, _, _, rfl, rfl, S, rfl, G9.same (fun b hb o e => hx₁₁ b o (O' b hb).1 (hx₁₀ b o (O' b hb).1 e)) rfl, ?_, hg8, ?_, ?_, ?_⟩⟩
            · exact fun b hb => ⟨(O' b hb).1, (O' b hb).2.1, fun j r hj => by
                cases j with
                | zero => cases hj; exact (O' b hb).2.2 0 (rP h₃.objs.size (strValues l).toArray) rfl
                | succ j => simp at hj⟩
            · rw [← hfin, stripGo, if_pos hu, hl']
            · rw [← hl']
              simp only [List.length_map, List.length_cons] at hle
              split
              · simp only [List.length_append, List.length_map, List.length_cons, List.length_nil]; omega
              · simp only [List.length_map]; omega
            · intro y hy
              rw [← hl'] at hy
              split at hy
              · rcases List.mem_append.mp hy with hy | hy
                · exact hall y hy
                · rw [List.mem_singleton.mp hy]; exact Txt.slice_le _ _ _
              · exact hall y hy
          refine wpAny_If (wpAny_isTrue_Compare1 (nm 1 V S rfl rfl (nm 2 V S rfl rfl (neI (wpAny_truthy_bool ?_)))))
          by_cases hso : st = o
          · have hb : (((st : Nat) : Int) != ((o : Nat) : Int)) = false := by simp [hso]
            rw [hb]
            refine wpAny_execs_nil ?_
            exact ⟨rfl, h₈, _, l, rfl, S, G8.same (fun _ _ _ e => e) rfl, by rw [if_neg (fun q => q hso)]⟩
          · have hb : (((st : Nat) : Int) != ((o : Nat) : Int)) = true := by simp only [bne_iff_ne, ne_eq]; omega
            rw [hb]
            have hls : (strValues l).toArray.size ≤ sizeLine := by
              have : l.length ≤ 101 := by simp only [List.length_map, List.length_cons] at hle; omega
              rw [sizeLine_eq]; simp [strValues]; omega
            refine wpAny_execs_cons (wpAny_Expr (app1 rfl rfl rfl hls (fun Q' q => nm 3 V S rfl rfl q) (S.at 0 rfl) (Subscript_Slice (nm 0 V S rfl rfl (wpAny_Slice (evalPart_some_step (nm 1 V S rfl rfl (evalPart_some_step (nm 2 V S rfl rfl (evalPart_none_step (cut_ss hsz fun h' tk' t' kp => ⟨(S.kept kp).at 0 rfl, fun h'' hl' hx' => ?_⟩)))))))))) V.inter)
            have S9 := (S.kept kp).put 0 rfl (rP h₃.objs.size (strValues (l ++ [(Txt.slice x (some (st : Int)) (some (o : Int)), tk')])).toArray) (h' := h'') (fun b o hb e => hx' b o (fun q => hb (by rw [q]; exact List.mem_singleton.mpr rfl)) e) (by
              have e : (strValues l).toArray.push (Value.str (Txt.slice x (some (st : Int)) (some (o : Int))) tk') = (strValues (l ++ [(Txt.slice x (some (st : Int)) (some (o : Int)), tk')])).toArray := by simp [strValues]
              rw [← e]; exact hl') (fun b hb => .inl hb)
            refine wpAny_execs_nil ?_
            refine ⟨rfl, h'', _, _, rfl, S9, G8.same (fun b hb o e => hx' b o (fun q => (O' b hb).2.2 0 _ rfl (by rw [q]; exact List.mem_singleton.mpr rfl)) (kp b o e)) rfl, by rw [if_pos hso]; simp⟩
      · have hu' : decide (u = quote) = false := decide_eq_false hu
        rw [hu']
        refine wpAny_execs_nil (wpAny_execs_nil ?_)
        refine ⟨rest'.length, Nat.lt_succ_self _, ⟨h₈, g₇, _, rest', st, op, _, l, fp', ts, to, _, _, rfl, rfl, S, rfl, G8.same (fun _ _ _ e => e) rfl, O', hg8, ?_, ?_, hall⟩⟩
        · rw [← hfin]; cases op <;> rw [stripGo, if_neg hu]
        · simp only [List.length_map, List.length_cons] at hle ⊢; omega
    · obtain ⟨h₇, g₇, d₇, t₇, os₇⟩ := s'
      have hd' : d₇ = d := hd'
      have hos' : os₇ = os := hos'
      subst hd'
      subst hos'
      subst hr
      have S' := S.off O hk
      clear S
      have S := S'
      clear S'
      have hls : l.length ≤ 101 := by simp only [List.length_map, List.length_nil] at hle; omega
      have hls' : (strValues l).toArray.size ≤ sizeLine := by
        rw [sizeLine_eq]; simp [strValues]; omega
      refine wpAny_execs_nil ?_
      have hfin' : (st, l.map (·.1)) = stripGo x (escL x.cps.toList 0 false) 0 none [] := by
        rw [← hfin]; cases op <;> rfl
      have hst : stripC x = Txt.join (Str.ofString "") (if st < x.length then l.map (·.1) ++ [Txt.slice x (some (st : Int)) none] else l.map (·.1)) := by
        unfold stripC
        rw [if_neg (by rw [hc]; decide), ← hfin']
      refine wpAny_execs_cons (wpAny_mono (Q := fun f s' => f = Flow.next ∧ ∃ (h₉ : Heap) (t₉ : Nat) (l' : List (Str × Tok)), s' = sh h₉ g₇ d₇ t₉ os₇ ∧ Fm w h L ksS [some (.str x tx), some (.int ((st : Nat) : Int) ts), some (optI op to), some (.ref h₃.objs.size), pv, cv] [rP h₃.objs.size (strValues l').toArray] h₉ ∧
              (if st < x.length then l.map (·.1) ++ [Txt.slice x (some (st : Int)) none] else l.map (·.1)) = l'.map (·.1)) (E := fun _ _ => False) ?first2 ?second2 (fun _ _ x => x.elim))
      case second2 =>
        rintro f s' ⟨rfl, h₉, t₉, l', rfl, S, hl'⟩
        rw [hl'] at hst
        refine wpAny_execs_cons (wpAny_Return_some ?_)
        refine Call_method1 ?mma1 ?mmb1 ?mmc1 ?mmd1
        case mma1 => exact rfl
        case mmb1 => exact rfl
        case mmc1 => exact rfl
        refine cs fun k3 t10 => ?_
        refine SB.join ?_
        refine nm 3 V S rfl rfl ⟨_, l', rfl, (S.at 0 rfl : Heap.PlainList _ _ _).isList, _, rfl, ?_, fun tk t' => ?_⟩
        · refine joinOk_of ?_
          rw [← hl']
          have : ∀ (r : List Str), (∀ y ∈ r, y.length ≤ 100) → (r.map (·.length)).sum ≤ r.length * 100 := by
            intro r
            induction r with
            | nil => intro _; exact Nat.le_refl _
            | cons y r ih =>
              intro hr
              have h1 := hr y (List.mem_cons_self ..)
              have h2 := ih fun z hz => hr z (List.mem_cons_of_mem _ hz)
              simp only [List.map_cons, List.sum_cons, List.length_cons]; omega
          have hb := this (if st < x.length then l.map (·.1) ++ [Txt.slice x (some (st : Int)) none] else l.map (·.1)) (by
            intro y hy
            split at hy
            · rcases List.mem_append.mp hy with hy | hy
              · exact Nat.le_trans (hall y hy) hlen
              · rw [List.mem_singleton.mp hy]; exact Nat.le_trans (Txt.slice_le _ _ _) hlen
            · exact Nat.le_trans (hall y hy) hlen)
          have hn : (if st < x.length then l.map (·.1) ++ [Txt.slice x (some (st : Int)) none] else l.map (·.1)).length ≤ 102 := by
            split
            · simp only [List.length_append, List.length_map, List.length_cons, List.length_nil]; omega
            · simp only [List.length_map]; omega
          have h0 : (Str.ofString "").length = 0 := by decide
          rw [h0]
          omega
        · rw [← hst]
          exact hq _ _ _ _ S.keep (.inr ⟨y, hg.trans hg', hfi⟩)
      refine wpAny_If (wpAny_isTrue_Compare1 (nm 1 V S rfl rfl (Call_Name1 (bi (v := .builtin "len") V S.tp (by decide) (by rfl) (by rfl) (by decide) (PySem.callWith_builtin1 (nm 0 V S rfl rfl (lenS hsz fun k3 t9 => ltI (wpAny_truthy_bool ?_))))))))
      by_cases hso : st < x.length
      · have hb : decide (((st : Nat) : Int) < (x.length : Int)) = true := by simpa using hso
        rw [hb]
        refine wpAny_execs_cons (wpAny_Expr (app1 rfl rfl rfl hls' (fun Q' q => nm 3 V S rfl rfl q) (S.at 0 rfl) (Subscript_Slice (nm 0 V S rfl rfl (wpAny_Slice (evalPart_some_step (nm 1 V S rfl rfl (evalPart_none_step (evalPart_none_step (cut_sn hsz fun h' tk' t' kp => ⟨(S.kept kp).at 0 rfl, fun h'' hl' hx' => ?_⟩))))))))) V.inter)
        have S9 := (S.kept kp).put 0 rfl (rP h₃.objs.size (strValues (l ++ [(Txt.slice x (some (st : Int)) none, tk')])).toArray) (h' := h'') (fun b o hb e => hx' b o (fun q => hb (by rw [q]; exact List.mem_singleton.mpr rfl)) e) (by
          have e : (strValues l).toArray.push (Value.str (Txt.slice x (some (st : Int)) none) tk') = (strValues (l ++ [(Txt.slice x (some (st : Int)) none, tk')])).toArray := by simp [strValues]
          rw [← e]; exact hl') (fun b hb => .inl hb)
        refine wpAny_execs_nil ?_
        exact ⟨rfl, h'', _, _, rfl, S9, by rw [if_pos hso]; simp⟩
      · have hb : decide (((st : Nat) : Int) < (x.length : Int)) = false := by simpa using hso
        rw [hb]
        refine wpAny_execs_nil ?_
        exact ⟨rfl, h₇, _, l, rfl, S, by rw [if_neg hso]⟩
end Mine
end
section
open PySem PySem.W PySem.W.X PyProof.Rows PySem.Calls
set_option maxRecDepth 100000
set_option maxHeartbeats 2000000
namespace Mine

def GG (a b : Array GenState) : Prop := a.size ≤ b.size ∧ (∀ j, j < a.size → b[j]? = a[j]?) ∧ ∀ (j : Nat) (x : GenState), a.size ≤ j → b[j]? = some x → x = .finished
theorem GG.refl (a : Array GenState) : GG a a := ⟨Nat.le_refl _, fun _ _ => rfl, fun j x hj e => by
  have := (Array.getElem?_eq_some_iff.mp e).1
  omega⟩
theorem GG.trans {a b c : Array GenState} (x : GG a b) (y : GG b c) : GG a c := ⟨Nat.le_trans x.1 y.1, fun j hj => (y.2.1 j (by have := x.1; omega)).trans (x.2.1 j hj), fun j z hj e => by
  by_cases hb : j < b.size
  · rw [y.2.1 j hb] at e; exact x.2.2 j z hj e
  · exact y.2.2 j z (by omega) e⟩
theorem GG.one {a b : Array GenState} {y : GenState} (x : OnlyG a.size (a.push y) b) (f : b[a.size]? = some .finished) : GG a b := by
  have hs : b.size = a.size + 1 := by rw [x.1, Array.size_push]
  refine ⟨by omega, fun j hj => ?_, fun j z hj e => ?_⟩
  · rw [x.2 j (by omega), Array.getElem?_push, if_neg (by omega)]
  · have := (Array.getElem?_eq_some_iff.mp e).1
    have : j = a.size := by omega
    subst this
    rw [f] at e
    exact (Option.some.inj e).symm
def TupsAt (h : Heap) : List Addr → List (Nat × Str) → Prop
  | [], [] => True
  | T :: Ts, p :: r => (∃ tk tu, h.get? T = some (tupleObj #[.int p.1 tk, .str p.2 tu])) ∧ TupsAt h Ts r
  | _, _ => False
theorem TupsAt.same {h h' : Heap} : ∀ {Ts : List Addr} {r : List (Nat × Str)}, TupsAt h Ts r → Same Ts h h' → TupsAt h' Ts r
  | [], [], _, _ => trivial
  | T :: Ts, p :: r, x, k => ⟨let ⟨a, b, e⟩ := x.1; ⟨a, b, k T (List.mem_cons_self ..) _ e⟩, TupsAt.same x.2 fun b hb => k b (List.mem_cons_of_mem _ hb)⟩
theorem TupsAt.snoc {h : Heap} {T : Addr} {p : Nat × Str} {tk tu : Tok} (e : h.get? T = some (tupleObj #[.int p.1 tk, .str p.2 tu])) : ∀ {Ts : List Addr} {r : List (Nat × Str)}, TupsAt h Ts r → TupsAt h (Ts ++ [T]) (r ++ [p])
  | [], [], _ => ⟨⟨tk, tu, e⟩, trivial⟩
  | _ :: _, _ :: _, x => ⟨x.1, TupsAt.snoc e x.2⟩
theorem TupsAt.alive {h : Heap} : ∀ {Ts : List Addr} {r : List (Nat × Str)}, TupsAt h Ts r → ∀ b ∈ Ts, ∃ o, h.get? b = some o
  | [], [], _, b, hb => nomatch hb
  | T :: Ts, p :: r, x, b, hb => by
    rcases List.mem_cons.mp hb with rfl | hb
    · exact ⟨_, x.1.choose_spec.choose_spec⟩
    · exact TupsAt.alive x.2 b hb
theorem TupsAt.len {h : Heap} : ∀ {Ts : List Addr} {r : List (Nat × Str)}, TupsAt h Ts r → Ts.length = r.length
  | [], [], _ => rfl
  | _ :: _, _ :: _, x => congrArg (· + 1) (TupsAt.len x.2)
/-- a list of tuples: a place, a text -/
def rU (S : Addr) (Ts : List Addr) (r : List (Nat × Str)) : Reg where
  fp := S :: Ts
  P h := h.PlainList S (Ts.map Value.ref).toArray ∧ TupsAt h Ts r
  fr := fun h h' p k => ⟨p.1.at fun o e => k S (List.mem_cons_self ..) o e, p.2.same fun b hb => k b (List.mem_cons_of_mem _ hb)⟩
  al := fun h p b hb => by
    rcases List.mem_cons.mp hb with rfl | hb
    · obtain ⟨n, e⟩ := p.1; exact ⟨_, e⟩
    · exact p.2.alive b hb
theorem ext_loop {w : World} {k : Nat} {A : Around} {R : Result → Shared → Prop} {a gi : Nat} {S : Addr} {res : Value} {hB : Heap} (o : Ok (k + 1) A.in1) :
    ∀ (rest done : List (Nat × Str)) (Ts : List Addr) (fp : List Addr) (s : Shared) (c : Nat), Tp w hB → Keep hB s.heap → Gen w A.in1 a gi fp rest s → s.heap.get? S = some { cls := .type "list", data := .seq (Ts.map Value.ref).toArray c } → TupsAt s.heap Ts done →
      S ∉ fp → (∀ T ∈ Ts, T ∉ fp ∧ T ≠ S ∧ hB.get? T = none) → hB.get? S = none → (∀ b ∈ fp, hB.get? b = none) → (done ++ rest).length ≤ 1000 →
      (∀ s' Ts' c', Keep hB s'.heap → s'.heap.get? S = some { cls := .type "list", data := .seq (Ts'.map Value.ref).toArray c' } → TupsAt s'.heap Ts' (done ++ rest) → (∀ T ∈ Ts', hB.get? T = none) → OnlyG gi s.gens s'.gens →
        s'.gens[gi]? = some .finished → s'.drawn = s.drawn → s'.os = s.os → R (.ok (.ret res)) s') →
      codeAny (Md w) A (.builtin "list.extend.loop" ⟨[.ref S, .ref a, res], []⟩) R s := by
  intro rest
  induction rest with
  | nil =>
    intro done Ts fp s c T kB G hS hTs hSf hTf hSB hfB hlen hR
    refine codeAny_builtin F.entry_extend_loop ?_
    rw [Around.under_plainId F.plain_extend_loop _]
    show wpAny _ A.in1 (pyNext (.ref a) >>= _) _ _ s
    refine wpAny_bind (gen_next o (T.keep kB) G (fun i u r h => nomatch h) (fun _ s' hk hg hf hd hos => ?_))
    refine wpAny_pure (hR s' Ts c (fun b o e => hk b o (fun hb => by rw [hfB b hb] at e; cases e) (kB b o e)) (hk S _ hSf hS) ?_ (fun T hT => (hTf T hT).2.2) hg hf hd hos)
    rw [List.append_nil]
    exact hTs.same fun b hb o e => hk b o (hTf b hb).1 e
  | cons p rest ih =>
    intro done Ts fp s c T kB G hS hTs hSf hTf hSB hfB hlen hR
    refine codeAny_builtin F.entry_extend_loop ?_
    rw [Around.under_plainId F.plain_extend_loop _]
    show wpAny _ A.in1 (pyNext (.ref a) >>= _) _ _ s
    refine wpAny_bind (gen_next o (T.keep kB) G (fun i u rest' h T' tk tu fp' s' G' hT' hTs' hTf' hn hk hg hd hos => ?_) (fun h => nomatch h))
    cases h
    have hS' := hk S _ hSf hS
    have hfB' : ∀ b ∈ fp', hB.get? b = none := fun b hb => (hn b hb).elim (hfB b) fun e => by
      cases q : hB.get? b with
      | none => rfl
      | some o' => rw [kB b o' q] at e; cases e
    have hSf' : S ∉ fp' := fun hb => (hn S hb).elim hSf fun e => by rw [hS] at e; cases e
    have hTS : T' ≠ S := fun e => by rw [e, hS] at hTs'; cases hTs'
    have hTl : ∀ b ∈ Ts, ∃ o, s.heap.get? b = some o := hTs.alive
    show wpAny _ A.in1 (updateSeq S (·.push (.ref T')) >>= _) _ _ _
    have hz : ((Ts.map Value.ref).toArray).size ≤ 999 := by
      have := hTs.len
      simp at hlen ⊢; omega
    refine wpAny_bind ?_
    refine wpAny_updateSeq hS' rfl (wpAny_pure ⟨plainId_quiet F.plain_extend_loop _, ih (done ++ [(i, u)]) (Ts ++ [T']) fp' _ _ T ?_ (G'.same ?_ rfl) (by rw [show (List.map Value.ref (Ts ++ [T'])).toArray = (List.map Value.ref Ts).toArray.push (.ref T') by simp]; exact Heap.get?_update_self _ hS' rfl) ?_ hSf' ?_ hSB hfB' (by simpa using hlen) fun s'' Ts'' c'' k'' hS'' hTs'' hTn'' hg'' hf'' hd'' hos'' => ?_⟩) ?_ ?_
    · intro b o e
      refine (Heap.get?_update_other _ _ (fun h : S = b => ?_)).trans (hk b o (fun hb => by rw [hfB b hb] at e; cases e) (kB b o e))
      rw [← h, hSB] at e; cases e
    · intro b hb o e
      exact (Heap.get?_update_other _ _ (fun h : S = b => hSf' (by rw [h]; exact hb))).trans e
    · have h2 : TupsAt s'.heap (Ts ++ [T']) (done ++ [(i, u)]) := TupsAt.snoc (p := (i, u)) hT' (hTs.same fun b hb o e => hk b o (hTf b hb).1 e)
      refine h2.same fun b hb o e => (Heap.get?_update_other _ _ (fun h : S = b => ?_)).trans e
      rcases List.mem_append.mp hb with hb | hb
      · exact (hTf b hb).2.1 h.symm
      · exact hTS ((List.mem_singleton.mp hb).symm.trans h.symm)
    · intro b hb
      rcases List.mem_append.mp hb with hb | hb
      · refine ⟨fun hb' => ?_, (hTf b hb).2⟩
        rcases hn b hb' with q | q
        · exact (hTf b hb).1 q
        · obtain ⟨o', e⟩ := hTl b hb
          rw [q] at e; cases e
      · rw [List.mem_singleton.mp hb]
        refine ⟨hTf', hTS, ?_⟩
        cases q : hB.get? T' with
        | none => rfl
        | some o' => rw [kB T' o' q] at hTs'; cases hTs'
    · refine hR s'' Ts'' c'' k'' hS'' ?_ hTn'' (hg.trans hg'') hf'' (hd''.trans hd) (hos''.trans hos)
      rw [List.append_assoc] at hTs''; exact hTs''
    · rw [sizeLine_eq]; omega
    · rw [sizeLine_eq]; simp at hz ⊢; omega
theorem listGen {w : World} {k : Nat} {A : Around} {E : Value → Shared → Prop} {Q : Value → Shared → Prop} {a gi : Nat} {hB h : Heap} {g : Array GenState} {d : Drawn} {t : Nat} {os : OsState} {fp : List Addr} {rest : List (Nat × Str)} (o : Ok (k + 1) A.in1.in1) (T : Tp w hB) (kB : Keep hB h)
    (G : Gen w A.in1.in1 a gi fp rest (sh h g d t os)) (hfB : ∀ b ∈ fp, hB.get? b = none) (hlen : rest.length ≤ 1000)
    (hQ : ∀ S Ts h' g' t', Keep hB h' → (rU S Ts rest).P h' → hB.get? S = none → (∀ T ∈ Ts, hB.get? T = none) → OnlyG gi g g' → g'[gi]? = some .finished → Q (.ref S) (sh h' g' d t' os)) :
    wpAny (Md w) A (call (.type "list") [.ref a]) Q E (sh h g d t os) := by
  have hSf : h.objs.size ∉ fp := fun hm => by exact absurd (G.mx.bd _ hm) (Nat.lt_irrefl _)
  have hSB : hB.get? h.objs.size = none := by
    cases q : hB.get? h.objs.size with
    | none => rfl
    | some o' => exact absurd (Heap.lt_size (kB _ _ q)) (Nat.lt_irrefl _)
  refine callType_codes (Q₁ := fun obj s₁ => obj = .ref h.objs.size ∧ s₁ = sh (h.push { cls := .type "list", data := .seq #[] }) g d t os) F.called_list (F.typeCall_list_1 _) F.entry_list_init
    (code_list_new _ ⟨rfl, rfl⟩) fun obj s₁ h₁ => ?_
  obtain ⟨rfl, rfl⟩ := h₁
  have hS : (h.push { cls := .type "list", data := .seq #[] }).get? h.objs.size = some { cls := .type "list", data := .seq #[] } := Heap.get?_push_size _ rfl
  have k₁ : Keep h (h.push { cls := .type "list", data := .seq #[] }) := Keep.push _ _
  have G₁ : Gen w A.in1.in1 a gi fp rest (sh (h.push { cls := .type "list", data := .seq #[] }) g d t os) := G.same (k₁.same _) rfl
  refine ⟨⟨_, hS, rfl⟩, F.args_list_init_2 _ _, ?_⟩
  generalize hh : h.push { cls := .type "list", data := .seq #[] } = h₁ at hS k₁ G₁ ⊢
  generalize hSS : h.objs.size = S at hS hSf hSB ⊢
  show wpAny _ A.in1.in1 (do let old ← Builtin.List.listItems (.ref S); Builtin.List.listUpdate (.ref S) (fun _ => #[]); letGo old.toList.reverse; Builtin.List.listExtendWith (.ref S) (.ref a) .none) _ _ _
  refine wpAny_bind ?_
  unfold Builtin.List.listItems
  refine wpAny_bind (wpAny_seqItems hS rfl (wpAny_pure ?_))
  show wpAny _ A.in1.in1 (updateSeq S (fun _ => #[]) >>= fun _ => letGo (#[] : Array Value).toList.reverse >>= fun _ => Builtin.List.listExtendWith (.ref S) (.ref a) .none) _ _ _
  refine wpAny_bind (wpAny_updateSeq hS rfl ?_)
  have hS₂ := Heap.get?_update_self (Obj.mapSeq (fun _ => (#[] : Array Value))) hS rfl
  have oth : ∀ b o, b ≠ S → h₁.get? b = some o → (h₁.update S (Obj.mapSeq (fun _ => (#[] : Array Value)))).get? b = some o :=
    fun b o hb e => (Heap.get?_update_other _ _ (Ne.symm hb)).trans e
  refine wpAny_bind (wpAny_letGo ?_)
  generalize h₁.update S (Obj.mapSeq (fun _ => (#[] : Array Value))) = h₂ at hS₂ oth ⊢
  have G₂ : Gen w A.in1.in1 a gi fp rest (sh h₂ g d t os) := G₁.same (fun b hb o e => oth b o (fun q => hSf (q ▸ hb)) e) rfl
  have k₂ : Keep hB h₂ := fun b o e => oth b o (fun q => by rw [q, hSB] at e; cases e) (k₁ b o (kB b o e))
  clear hS oth G₁ k₁ hh
  unfold Builtin.List.listExtendWith
  have hT : ∀ {h : Heap} {t : Nat}, Gen w A.in1.in1 a gi fp rest (sh h g d t os) → (sh h g d t os).TypeIs (.ref a) "generator" := fun G => G.isG.typeIs
  refine wpAny_bind (wpAny_typeOf (hT G₂) ?_)
  have hSI : S ≠ a := fun e => hSf (e ▸ G.mem)
  have h1 : Builtin.List.listSameRef (.ref S) (.ref a) = false := by simp [Builtin.List.listSameRef, hSI]
  have h2 : (Value.type "generator" == Value.type "list") = false := by decide
  have h3 : (Value.type "generator" == Value.type "tuple") = false := by decide
  simp only [h1, h2, h3, Bool.or_false, Bool.false_eq_true, if_false]
  refine wpAny_bind (wpAny_pyIter_gen G₂.isG ?_)
  refine wpAny_bind (wpAny_holding ?_)
  unfold Builtin.List.listLengthHint
  refine wpAny_bind (wpAny_specialOf (hT G₂) F.gen_no_len ?_)
  show wpAny _ A.in1.in1 (specialOf (Value.ref a) (Str.ofString "__length_hint__") >>= _) _ _ _
  refine wpAny_bind (wpAny_specialOf (hT G₂) F.gen_no_hint ?_)
  refine wpAny_pure ?_
  show wpAny _ A.in1.in1 (rule "list.extend.makes-room" >>= fun _ => Builtin.List.listTouch (.ref S) >>= fun _ =>
    again (.builtin "list.extend.loop" ⟨[.ref S, .ref a, .none], []⟩)) _ _ _
  refine wpAny_bind (wpAny_rule ?_)
  refine wpAny_bind ?_
  show wpAny _ A.in1.in1 (updateSeq S (·.push .none) >>= fun _ => updateSeq S (·.pop)) _ _ _
  refine wpAny_bind (wpAny_updateSeq hS₂ rfl ?_)
  have hS₃ := Heap.get?_update_self (Obj.mapSeq (·.push Value.none)) hS₂ rfl
  have oth : ∀ b o, b ≠ S → h₂.get? b = some o → (h₂.update S (Obj.mapSeq (·.push Value.none))).get? b = some o :=
    fun b o hb e => (Heap.get?_update_other _ _ (Ne.symm hb)).trans e
  generalize h₂.update S (Obj.mapSeq (·.push Value.none)) = h₃ at hS₃ oth ⊢
  refine wpAny_updateSeq (hz := by seq_fits) hS₃ rfl ?_
  have hS₄ := Heap.get?_update_self (Obj.mapSeq (·.pop)) hS₃ rfl
  have oth' : ∀ b o, b ≠ S → h₂.get? b = some o → (h₃.update S (Obj.mapSeq (·.pop))).get? b = some o :=
    fun b o hb e => (Heap.get?_update_other _ _ (Ne.symm hb)).trans (oth b o hb e)
  generalize h₃.update S (Obj.mapSeq (·.pop)) = h₄ at hS₄ oth' ⊢
  have G₄ : Gen w A.in1.in1 a gi fp rest (sh h₄ g d t os) := G₂.same (fun b hb o e => oth' b o (fun q => hSf (q ▸ hb)) e) rfl
  have k₄ : Keep hB h₄ := fun b o e => oth' b o (fun q => by rw [q, hSB] at e; cases e) (k₂ b o e)
  refine wpAny_pure ⟨plainId_quiet F.plain_extend_loop _, ext_loop o rest [] [] fp _ _ T k₄ G₄ hS₄ trivial hSf (fun T hT => nomatch hT) hSB hfB (by simpa using hlen) ?_⟩
  intro s' Ts' c' k' hS' hTs' hTn hg hf hd hos
  obtain ⟨h₅, g₅, d₅, t₅, os₅⟩ := s'
  have hd : d₅ = d := hd
  have hos : os₅ = os := hos
  subst hd
  subst hos
  exact ⟨rfl, hQ S Ts' h₅ g₅ t₅ k' ⟨⟨_, hS'⟩, hTs'⟩ hSB hTn hg hf⟩
theorem genList {w : World} {k : Nat} {A : Around} {E : Value → Shared → Prop} {Q : Value → Shared → Prop} {h : Heap} {g : Array GenState} {d : Drawn} {t : Nat} {os : OsState} (o : Ok (k + 8) A) (T : Tp w h) {x : Str} {tx : Tok}
    (hx : x.cps.all (· < 128) = true) (hlen : x.length ≤ 100)
    (hq : ∀ S Ts h' g' t', Keep h h' → (rU S Ts (escL x.cps.toList 0 false)).P h' → h.get? S = none → (∀ T ∈ Ts, h.get? T = none) → GG g g' → Q (.ref S) (sh h' g' d t' os)) :
    wpAny (Md w) A (call (.ref 45) [.str x tx]) (fun v s => wpAny (Md w) A (call (.type "list") [v]) Q E s) E (sh h g d t os) := by
  refine genCall (k := k + 5) o T hx fun a fp h₁ t₁ y k₁ hG hfp => ?_
  refine listGen (hB := h) (k := k + 5) o.in1.in1 T k₁ (hG A.in1.in1 (k + 1) o.in1.in1) hfp ?_ fun S Ts h' g' t' k' hP hS hTs hg hf => hq S Ts h' g' t' k' hP hS hTs (GG.one hg hf)
  have := escL_len x.cps.toList 0 false
  have e : x.cps.toList.length = x.length := by simp [Str.length]
  omega
theorem stripG {w : World} {k : Nat} {A : Around} {E : Value → Shared → Prop} {Q : Value → Shared → Prop} {h : Heap} {g : Array GenState} {d : Drawn} {t : Nat} {os : OsState} (o : Ok (k + 8) A) (T : Tp w h) {x : Str} {tx : Tok}
    (hx : x.cps.all (· < 128) = true) (hlen : x.length ≤ 100) (hq : ∀ h' g' tk t', Keep h h' → GG g g' → Q (.str (stripC x) tk) (sh h' g' d t' os)) :
    wpAny (Md w) A (call (.ref 52) [.str x tx]) Q E (sh h g d t os) :=
  stripCall o T hx hlen fun h' g' tk t' k' hg => hq h' g' tk t' k' (hg.elim (fun e => e ▸ GG.refl _) fun ⟨_, a, b⟩ => GG.one a b)
end Mine
end
section
open PySem PySem.W PySem.W.X PyProof.Rows PySem.Calls
set_option maxRecDepth 100000
set_option maxHeartbeats 2000000
namespace Mine

theorem loopT {w : World} {A : Around} {R : Result → Shared → Prop} {s : Shared} {elt target iter : Expr} {ifs : List Expr} {scope : Scope} {pos : Pos} {it acc : Value} {env : Env} (I : Nat → Shared → Prop)
    (turn : ∀ n s, I n s → wpAny (Md w) A (pyNext it) (fun r s₁ => match r with
      | none => R (.ok .next) s₁
      | some v => wpAny (Md w) A (letOwnedTupleGo target it v) (fun _ s₁' => wpAny (Md w) A (assign target env v) (fun _ s₂ =>
          wpAny (Md w) A (forIn ifs true fun c r => if r = true then do let ok ← isTrue c env (eval c env); pure (ForInStep.yield ok) else pure (ForInStep.yield r)) (fun ok s₃ =>
            if ok = true then wpAny (Md w) A (eval elt env) (fun x s₄ =>
              wpAny (Md w) A (call (.builtin "list.append") [acc, x]) (fun _ s₅ => ∃ m, m < n ∧ I m s₅) (fun _ _ => False) s₄) (fun _ _ => False) s₃
            else ∃ m, m < n ∧ I m s₃) (fun _ _ => False) s₂) (fun _ _ => False) s₁') (fun _ _ => False) s₁) (fun _ _ => False) s)
    (n : Nat) (h : I n s) :
    codeAny (Md w) A (.compLoop (.ListComp elt [⟨target, iter, ifs, 0⟩] scope pos) 0 it acc env) R s := by
  refine codeAny_loop rfl I (fun n s hI => ?_) n h
  show wpAny _ A ((compTurn (.ListComp elt [⟨target, iter, ifs, 0⟩] scope pos) 0 it acc env).onRaise (fun x => do noteFrame x env; theTreesLotGoes x)) _ _ s
  refine wpAny_noted ?_
  rw [compTurn_list]
  refine wpAny_bind (wpAny_standAt (wpAny_bind (wpAny_mono (turn n s hI) (fun r s₁ h₁ => ?_) fun _ _ h' => h'.elim)))
  cases r with
  | none => exact wpAny_pure h₁
  | some v =>
    refine wpAny_bind (wpAny_mono h₁ (fun _ s₁' h₁ => ?_) fun _ _ h' => h'.elim)
    refine wpAny_bind (wpAny_mono h₁ (fun _ s₂ h₂ => wpAny_bind (wpAny_mono h₂ (fun ok s₃ h₃ => ?_) fun _ _ h' => h'.elim)) fun _ _ h' => h'.elim)
    cases ok with
    | false => exact wpAny_pure ⟨rfl, h₃⟩
    | true =>
      exact wpAny_bind (wpAny_bind (wpAny_mono h₃ (fun x s₄ h₄ => wpAny_bind (wpAny_mono h₄ (fun _ s₅ h₅ => wpAny_pure (wpAny_pure ⟨rfl, h₅⟩)) fun _ _ h' => h'.elim)) fun _ _ h' => h'.elim))
theorem lookup_relabel {env : Env} {k : NameKind} (hk : k ≠ .free) : ∀ {names : List (Str × NameKind)} {x : Str}, names.lookup x = some k →
    (names.map fun (n, k) => if (k == NameKind.free && env.scope.kind == .function && env.kindOf n == some .cell) then (n, NameKind.cell) else (n, k)).lookup x = some k
  | [], _, h => by simp at h
  | (n, k') :: r, x, h => by
    have ih := @lookup_relabel env k hk r x
    show List.lookup x ((if (k' == NameKind.free && env.scope.kind == .function && env.kindOf n == some .cell) = true then (n, NameKind.cell) else (n, k')) :: _) = _
    cases hx : x == n with
    | true =>
      simp only [List.lookup_cons, hx] at h
      cases h
      have : (k == NameKind.free) = false := by cases k <;> first | rfl | exact absurd rfl hk
      simp [List.lookup_cons, hx, this]
    | false =>
      simp only [List.lookup_cons, hx] at h
      by_cases hc : (k' == NameKind.free && env.scope.kind == .function && env.kindOf n == some .cell) = true
      · rw [if_pos hc]; simp only [List.lookup_cons, hx]; exact ih h
      · rw [if_neg hc]; simp only [List.lookup_cons, hx]; exact ih h
theorem lookup_relabel_free {env : Env} (hf : env.scope.kind = .function) : ∀ {names : List (Str × NameKind)} {x : Str}, names.lookup x = some .free → env.kindOf x = some .cell →
    (names.map fun (n, k) => if (k == NameKind.free && env.scope.kind == .function && env.kindOf n == some .cell) then (n, NameKind.cell) else (n, k)).lookup x = some .cell
  | [], _, h, _ => by simp at h
  | (n, k') :: r, x, h, hc' => by
    have ih := @lookup_relabel_free env hf r x
    show List.lookup x ((if (k' == NameKind.free && env.scope.kind == .function && env.kindOf n == some .cell) = true then (n, NameKind.cell) else (n, k')) :: _) = _
    cases hx : x == n with
    | true =>
      simp only [List.lookup_cons, hx] at h
      cases h
      have e : x = n := by simpa using hx
      subst e
      simp [hf, hc']
    | false =>
      simp only [List.lookup_cons, hx] at h
      by_cases hc : (k' == NameKind.free && env.scope.kind == .function && env.kindOf n == some .cell) = true
      · rw [if_pos hc]; simp only [List.lookup_cons, hx]; exact ih h hc'
      · rw [if_neg hc]; simp only [List.lookup_cons, hx]; exact ih h hc'
theorem scopeOk_relabel {scope : Scope} {env : Env} {ks gs : List Str} (h : scopeOk scope ks gs = true) : scopeOk (relabel scope env) ks gs = true := by
  have h' := h
  unfold scopeOk at h ⊢
  simp only [Bool.and_eq_true] at h ⊢
  refine ⟨⟨h.1.1, ?_⟩, ?_⟩
  · rw [List.all_eq_true]
    intro x hx
    have := scopeOk.local h' hx
    have e : (relabel scope env).names.lookup x = some .local := lookup_relabel (by decide) this.1
    simp only [e, noDebug, this.2]; rfl
  · rw [List.all_eq_true]
    intro x hx
    have := scopeOk.global h' hx
    have e : (relabel scope env).names.lookup x = some .globalImplicit := lookup_relabel (by decide) this.1
    simp only [e, noDebug, this.2]; rfl
theorem EnvOk.comp {env : Env} {L C : Addr} {ks gs ksC gsC : List Str} {scope : Scope} {cl : List (Str × Addr)} (V : EnvOk env L ks gs) (h : scopeOk scope ksC gsC = true) : EnvOk (compEnvC scope cl C env) C ksC gsC :=
  ⟨rfl, scopeOk_relabel h, V.glob, V.blt⟩

def zAddr (z : Value × Option Obj) : Option Addr := match z with
  | (.ref T, some _) => some T
  | _ => none
abbrev zVals (zs : List (Value × Option Obj)) : List Value := zs.map Prod.fst
/-- a comprehension's list, with the objects that it made -/
def rZ (D : Addr) (zs : List (Value × Option Obj)) : Reg where
  fp := D :: zs.filterMap zAddr
  P h := h.PlainList D (zVals zs).toArray ∧ ∀ T o, (Value.ref T, some o) ∈ zs → h.get? T = some o
  fr := fun h h' p k => ⟨p.1.at fun o e => k D (List.mem_cons_self ..) o e, fun T o hz => k T (List.mem_cons_of_mem _ (List.mem_filterMap.mpr ⟨_, hz, rfl⟩)) o (p.2 T o hz)⟩
  al := fun h p b hb => by
    rcases List.mem_cons.mp hb with rfl | hb
    · obtain ⟨n, e⟩ := p.1; exact ⟨_, e⟩
    · obtain ⟨⟨v, ob⟩, hz, e⟩ := List.mem_filterMap.mp hb
      cases v <;> cases ob <;> simp [zAddr] at e
      subst e
      exact ⟨_, p.2 _ _ hz⟩

abbrev testsOf (ifs : List Expr) (env : Env) : Sem Bool := forIn ifs true fun c r => if r = true then do let ok ← isTrue c env (eval c env); pure (ForInStep.yield ok) else pure (ForInStep.yield r)
abbrev No : Value → Shared → Prop := fun _ _ => False
section
variable {w : World} {A : Around} {E : Value → Shared → Prop} {h₁ h₂ : Heap} {env : Env} {L : Addr} {ks gs ksC gsC : List Str} {g : Array GenState} {d : Drawn} {t : Nat} {os : OsState}

/-- where a comprehension's items come from -/
structure Src (w : World) (A : Around) (g : Array GenState) (d : Drawn) (os : OsState) (env : Env) (h₁ : Heap) (I : Addr) (target : Expr) (scope : Scope) (cl : List (Str × Addr)) (ksC gsC : List Str) (n : Nat) (V : Nat → List (Option Value) → Prop) (fp wr : List Addr) (St : Nat → Heap → Prop) : Prop where
  sub : ∀ b ∈ wr, b ∈ fp
  frame : ∀ i h h', St i h → Same fp h h' → St i h'
  alive : ∀ i h, St i h → ∀ b ∈ fp, ∃ o, h.get? b = some o
  next : ∀ i C vs h' t', i < n → EnvOk (compEnvC scope cl C env) C ksC gsC → Fm w h₁ C ksC vs [] h' → vs.length = ksC.length → St i h' → C ∉ fp →
    wpAny (Md w) A (pyNext (.ref I)) (fun r s₁ => ∃ v, r = some v ∧ wpAny (Md w) A (letOwnedTupleGo target (.ref I) v) (fun _ s₂ => wpAny (Md w) A (assign target (compEnvC scope cl C env) v) (fun _ s₃ =>
      ∃ h₃ t₃ vs', s₃ = sh h₃ g d t₃ os ∧ Fm w h₁ C ksC vs' [] h₃ ∧ vs'.length = ksC.length ∧ V i vs' ∧ St (i + 1) h₃ ∧ ∀ b o, b ≠ C → b ∉ wr → h'.get? b = some o → h₃.get? b = some o) No s₂) No s₁) No (sh h' g d t' os)
  done : ∀ h' t', St n h' → wpAny (Md w) A (pyNext (.ref I)) (fun r s₁ => r = none ∧ ∃ h₃ t₃, s₁ = sh h₃ g d t₃ os ∧ ∀ b o, b ∉ wr → h'.get? b = some o → h₃.get? b = some o) No (sh h' g d t' os)
  self : ∀ i (s : Shared) (Q : Value → Shared → Prop) (E : Value → Shared → Prop), St i s.heap → Q (.ref I) s → wpAny (Md w) A (pyIter (.ref I)) Q E s

theorem comp_go {elt target iter : Expr} {ifs : List Expr} {scope : Scope} {cl : List (Str × Addr)} {pos : Pos} {I : Addr} {n : Nat} {V : Nat → List (Option Value) → Prop} {fp wr : List Addr} {St : Nat → Heap → Prop}
    (W : Src w A g d os env h₁ I target scope cl ksC gsC n V fp wr St) (hsz : n ≤ 100000) (p : Nat → Bool) (F : Nat → Value → Option Obj → Prop) {RR : Value → Addr → Result → Shared → Prop}
    (hso : (scopeOk scope ksC gsC && noCells scope) = true) (VE : EnvOk env L ks gs) (T : Tp w h₁) (k : Keep h₁ h₂) (hwr : ∀ b ∈ wr, h₁.get? b = none) (hfp : ∀ b ∈ fp, b < h₂.objs.size) (hst : St 0 h₂)
    (htest : ∀ C i vs h' t', i < n → EnvOk (compEnvC scope cl C env) C ksC gsC → Fm w h₁ C ksC vs [] h' → V i vs → wpAny (Md w) A (testsOf ifs (compEnvC scope cl C env)) (fun ok s => ok = p i ∧ ∃ h'' t'', s = sh h'' g d t'' os ∧ Keep h' h'') No (sh h' g d t' os))
    (helt : ∀ C i vs h' t', i < n → p i = true → EnvOk (compEnvC scope cl C env) C ksC gsC → Fm w h₁ C ksC vs [] h' → V i vs →
      wpAny (Md w) A (eval elt (compEnvC scope cl C env)) (fun y s => ∃ h'' t'' ob, s = sh h'' g d t'' os ∧ Keep h' h'' ∧ F i y ob ∧ ∀ o, ob = some o → ∃ T, y = .ref T ∧ h''.get? T = some o ∧ h'.get? T = none) No (sh h' g d t' os))
    (hRR : ∀ D C h' t' zs m, h'.Ns C m → Keep h₁ h' → h₁.get? C = none → C ∉ (rZ D zs).fp → (rZ D zs).P h' → (∀ b ∈ (rZ D zs).fp, h₁.get? b = none) →
      Paired (fun i (z : Value × Option Obj) => F i z.1 z.2) ((List.range n).filter p) zs → RR (.ref D) C (.ok .next) (sh h' g d t' os)) :
    wpAny (Md w) A (newList []) (fun acc s₃ => wpAny (Md w) A (newFunctionEnv scope env.globals cl [] env.qual none .none (some env)) (fun cenv s₄ =>
      codeAny (Md w) A (.compStart (.ListComp elt [⟨target, iter, ifs, 0⟩] scope pos) 0 (.ref I) acc { cenv with scope := relabel scope env }) (RR acc cenv.locals) s₄) E s₃) E (sh h₂ g d t os) := by
  simp only [Bool.and_eq_true] at hso
  obtain ⟨hso, hnc⟩ := hso
  refine newL (Nat.zero_le _) (wpAny_newFunctionEnv (fun x hx => by have := List.all_eq_true.mp hnc x hx; simpa using this) (by intro y hy; simp at hy) (fun h₃ hns hsb => ?_) (scopeOk.kind hso))
  dsimp only at hns hsb ⊢
  generalize hH : h₂.push { cls := .type "list", dict := none, data := .seq ([] : List Value).toArray } = H at hns hsb ⊢
  have hC : H.objs.size = h₂.objs.size + 1 := by rw [← hH, Heap.size_push]
  generalize hCC : H.objs.size = C at hns hsb hC ⊢
  generalize hDD : h₂.objs.size = D at hC ⊢
  have hDC : D ≠ C := by rw [hC]; exact Nat.ne_of_lt (Nat.lt_succ_self _)
  have hDf : D ∉ fp := fun hm => by have := hfp _ hm; rw [hDD] at this; exact Nat.lt_irrefl _ this
  have hCf : C ∉ fp := fun hm => by have := hfp _ hm; rw [hDD, hC] at this; exact Nat.lt_irrefl _ (Nat.lt_of_succ_lt this)
  have k₃ : Keep h₂ h₃ := fun b o e => hsb.extBut b o (by rw [hC, ← hDD]; exact Nat.ne_of_lt (Nat.lt_succ_of_lt (Heap.lt_size e))) (Heap.get?_push_of_some _ (hH ▸ Heap.get?_push_of_some _ e))
  have hacc : h₃.PlainList D #[] := ⟨_, hsb.extBut _ _ hDC (Heap.get?_push_of_some _ (by rw [← hH, ← hDD]; exact Heap.get?_push_size _ rfl))⟩
  have hst₃ : St 0 h₃ := W.frame _ _ _ hst (k₃.same _)
  have fresh : ∀ a, D ≤ a → h₁.get? a = none := fun a ha => by
    cases e : h₁.get? a with
    | none => rfl
    | some o' => exact absurd (Heap.lt_size (k _ _ e)) (Nat.not_lt.mpr (by rw [hDD]; exact ha))
  have hC1 : h₁.get? C = none := fresh C (by rw [hC]; exact Nat.le_succ _)
  have hD1 : h₁.get? D = none := fresh D (Nat.le_refl _)
  have hns' : h₃.Ns C (mapOf ksC (List.replicate ksC.length none)) := by
    have : (fun x : Str => (([] : List (Str × Value)).reverse.lookup x)) = mapOf ksC (List.replicate ksC.length none) := by
      funext x; rw [mapOf_none]; rfl
    rw [← this]; exact hns
  have S₃ : Fm w h₁ C ksC (List.replicate ksC.length none) [] h₃ := ⟨T, k.trans k₃, hns', hC1, fun i r hi => by simp at hi, fun i j r r' _ hi => by simp at hi⟩
  have VC : EnvOk (compEnvC scope cl C env) C ksC gsC := VE.comp hso
  have loop : ∀ t, codeAny (Md w) A (.compLoop (.ListComp elt [⟨target, iter, ifs, 0⟩] scope pos) 0 (.ref I) (.ref D) (compEnvC scope cl C env)) (RR (.ref D) C) (sh h₃ g d t os) := by
    intro t
    refine loopT (fun q s => ∃ (i : Nat) (h' : Heap) (t' : Nat) (vs : List (Option Value)) (zs : List (Value × Option Obj)), q = n - i ∧ i ≤ n ∧ s = sh h' g d t' os ∧ Fm w h₁ C ksC vs [] h' ∧ vs.length = ksC.length ∧ St i h' ∧ (rZ D zs).P h' ∧ (∀ b ∈ (rZ D zs).fp, h₁.get? b = none ∧ b ≠ C ∧ b ∉ fp) ∧
        (∀ b ∈ zs.filterMap zAddr, b ≠ D) ∧ Paired (fun i (z : Value × Option Obj) => F i z.1 z.2) ((List.range i).filter p) zs) ?_ n
      ⟨0, h₃, t, _, [], rfl, Nat.zero_le _, rfl, S₃, List.length_replicate, hst₃, ⟨hacc, fun T o hz => nomatch hz⟩, fun b hb => by rw [List.mem_singleton.mp hb]; exact ⟨hD1, hDC, hDf⟩, fun b hb => by simp at hb, .nil⟩
    rintro q s ⟨i, h', t', vs, zs, rfl, hi, rfl, S, hvl, hSt, hZ, hzf, hzD, hP⟩
    by_cases hlt : i < n
    · refine wpAny_mono (W.next i C vs h' t' hlt VC S hvl hSt hCf) ?_ fun _ _ x => x
      rintro r s₁ ⟨v, rfl, h1⟩
      refine wpAny_mono h1 (fun _ s₂ h2 => wpAny_mono h2 (fun _ s₃ h3 => ?_) fun _ _ x => x) fun _ _ x => x
      obtain ⟨h4, t4, vs', rfl, S4, hvl4, hV, hSt4, hk4⟩ := h3
      have hZ4 : (rZ D zs).P h4 := (rZ D zs).fr _ _ hZ fun b hb o e => hk4 b o (hzf b hb).2.1 (fun hw => (hzf b hb).2.2 (W.sub b hw)) e
      refine wpAny_mono (htest C i vs' h4 t4 hlt VC S4 hV) ?_ fun _ _ x => x
      rintro ok s5 ⟨rfl, h5, t5, rfl, k5⟩
      have S5 := S4.kept k5
      have hSt5 := W.frame _ _ _ hSt4 (k5.same _)
      have hZ5 : (rZ D zs).P h5 := (rZ D zs).fr _ _ hZ4 (k5.same _)
      cases hp : p i with
      | false =>
        rw [if_neg Bool.false_ne_true]
        refine ⟨n - (i + 1), by omega, i + 1, h5, t5, vs', zs, rfl, hlt, rfl, S5, hvl4, hSt5, hZ5, hzf, hzD, ?_⟩
        rw [List.range_succ, List.filter_append]
        simpa [hp] using hP
      | true =>
        rw [if_pos rfl]
        refine wpAny_mono (helt C i vs' h5 t5 hlt hp VC S5 hV) ?_ fun _ _ x => x
        rintro y s6 ⟨h6, t6, ob, rfl, k6, hF, hob⟩
        have S6 := S5.kept k6
        have hZ6 : (rZ D zs).P h6 := (rZ D zs).fr _ _ hZ5 (k6.same _)
        have hlen : zs.length ≤ 100000 := by
          have h1 := hP.length
          have h2 : ((List.range i).filter p).length ≤ i := by
            have := List.length_filter_le p (List.range i)
            simpa using this
          omega
        refine wpAny_list_append_plain hZ6.1 (fun h7 hl7 hs7 => ?_) (by rw [sizeLine_eq]; simp [zVals]; omega)
        have off7 : ∀ b o, b ≠ D → h6.get? b = some o → h7.get? b = some o := fun b o hb e => hs7.extBut b o hb e
        have S7 : Fm w h₁ C ksC vs' [] h7 := S6.off (fp := [D]) (fun b hb => by rw [List.mem_singleton.mp hb]; exact ⟨hDC, hD1, fun j r hj => by simp at hj⟩) fun b o hb e => off7 b o (fun q => hb (by rw [q]; exact List.mem_singleton.mpr rfl)) e
        have hD5 : ∃ o, h5.get? D = some o := by obtain ⟨q, e⟩ := hZ5.1; exact ⟨_, e⟩
        have new : ∀ T, zAddr (y, ob) = some T → h5.get? T = none ∧ ∃ o, ob = some o ∧ h6.get? T = some o := fun T e => by
          cases ob with
          | none => cases y <;> simp [zAddr] at e
          | some o =>
            obtain ⟨T', hy, ho, hn⟩ := hob o rfl
            subst hy
            simp [zAddr] at e
            subst e
            exact ⟨hn, o, rfl, ho⟩
        have hTD : ∀ T, zAddr (y, ob) = some T → T ≠ D := fun T e q => by
          obtain ⟨o, ho⟩ := hD5
          have := (new T e).1
          rw [q, ho] at this; cases this
        have fpz : ∀ b, b ∈ (zs ++ [(y, ob)]).filterMap zAddr → b ∈ zs.filterMap zAddr ∨ zAddr (y, ob) = some b := fun b hb => by
          rw [List.filterMap_append] at hb
          rcases List.mem_append.mp hb with hb | hb
          · exact .inl hb
          · obtain ⟨z, hz, e⟩ := List.mem_filterMap.mp hb
            rw [List.mem_singleton.mp hz] at e
            exact .inr e
        refine ⟨n - (i + 1), by omega, i + 1, h7, _, vs', zs ++ [(y, ob)], rfl, hlt, rfl, S7, hvl4, W.frame _ _ _ hSt5 (fun b hb o e => off7 b o (fun q => hDf (q ▸ hb)) (k6 b o e)), ⟨?_, ?_⟩, ?_, ?_, ?_⟩
        · have e : (zVals zs).toArray.push y = (zVals (zs ++ [(y, ob)])).toArray := by simp [zVals]
          rw [← e]; exact hl7
        · intro T o hz
          rcases List.mem_append.mp hz with hz | hz
          · exact off7 T o (hzD T (List.mem_filterMap.mpr ⟨_, hz, rfl⟩)) (hZ6.2 T o hz)
          · have hz := List.mem_singleton.mp hz
            obtain ⟨o', e', ho'⟩ := (new T (by rw [← hz]; rfl)).2
            have : ob = some o := by rw [← show ((Value.ref T, some o) : Value × Option Obj).2 = ob by rw [hz]]
            rw [this] at e'
            cases e'
            exact off7 T o (hTD T (by rw [← hz]; rfl)) ho'
        · intro b hb
          rcases List.mem_cons.mp hb with rfl | hb
          · exact ⟨hD1, hDC, hDf⟩
          · rcases fpz b hb with hb | hb
            · exact hzf b (List.mem_cons_of_mem _ hb)
            · have hn := (new b hb).1
              refine ⟨?_, fun q => ?_, fun q => ?_⟩
              · cases q : h₁.get? b with
                | none => rfl
                | some o' => rw [S5.keep _ _ q] at hn; cases hn
              · obtain ⟨o', e⟩ := S5.alive
                rw [q, e] at hn; cases hn
              · obtain ⟨o', e⟩ := W.alive _ _ hSt5 b q
                rw [e] at hn; cases hn
        · intro b hb
          rcases fpz b hb with hb | hb
          · exact hzD b hb
          · exact hTD b hb
        · rw [List.range_succ, List.filter_append]
          simp only [List.filter_cons, hp, if_true, List.filter_nil]
          exact hP.snoc hF
    · have hin : i = n := by omega
      subst hin
      refine wpAny_mono (W.done h' t' hSt) ?_ fun _ _ x => x
      rintro r s₁ ⟨rfl, h4, t4, rfl, hk4⟩
      have hwf : ∀ b ∈ wr, b ≠ C ∧ h₁.get? b = none := fun b hb => ⟨fun e => hCf (e ▸ W.sub b hb), hwr b hb⟩
      exact hRR D C h4 t4 zs _ (S.ns.at' fun o e => hk4 C o (fun hb => (hwf C hb).1 rfl) e) (fun b o e => hk4 b o (fun hb => by rw [hwr b hb] at e; cases e) (S.keep b o e)) hC1 (fun hb => (hzf C hb).2.1 rfl)
        ((rZ D zs).fr _ _ hZ fun b hb o e => hk4 b o (fun hw => (hzf b hb).2.2 (W.sub b hw)) e) (fun b hb => (hzf b hb).1) hP
  exact codeAny_compStart_list (loop _) (W.self 0 _ _ _ hst₃ (loop _))

theorem Src.ofWalks {scope : Scope} {cl : List (Str × Addr)} {x : Str} {px : Pos} {I : Addr} {n : Nat} {P : Nat → Value → Prop} {fp wr : List Addr} {St : Nat → Heap → Prop} (W : Walks PySem.Challenge.pw_sn0040_01 w A I fp wr n P St)
    (al : ∀ i h, St i h → ∀ b ∈ fp, ∃ o, h.get? b = some o) (hwr : ∀ b ∈ wr, h₁.get? b = none) (j : Nat) (hj : ksC[j]? = some x) :
    Src w A g d os env h₁ I (.Name x px) scope cl ksC gsC n (fun i vs => ∃ v, P i v ∧ vs[j]? = some (some v)) fp wr St where
  sub := W.sub
  frame := fun i h h' st k => W.frame i h h' st k
  alive := al
  next := fun i C vs h' t' hi VC S hvl st hC => by
    refine W.item i (sh h' g d t' os) _ _ hi st fun v h₃ tk hP st₃ hk => ?_
    refine ⟨v, rfl, wpAny_pure ?_⟩
    have S₃ : Fm w h₁ C ksC vs [] h₃ := S.off (fp := wr) (fun b hb => ⟨fun e => hC (e ▸ W.sub b hb), hwr b hb, fun i r hi => by simp at hi⟩) hk
    have hjl : j < ksC.length := (List.getElem?_eq_some_iff.mp hj).1
    refine wpAny_assign_Name (stX j VC S₃ hj (by rw [List.getElem?_eq_getElem (by omega)]; rfl) fun h₄ t₄ S₄ hx₄ => ?_)
    refine ⟨h₄, t₄, _, rfl, S₄, by rw [List.length_set]; exact hvl, ⟨v, hP, ?_⟩, W.frame _ _ _ st₃ (fun b hb o e => hx₄ b o (fun q => hC (q ▸ hb)) e), fun b o hb hbw e => hx₄ b o hb (hk b o hbw e)⟩
    rw [List.getElem?_set, if_pos rfl, if_pos (by omega)]
  done := fun h' t' st => W.done (sh h' g d t' os) _ _ st fun h₃ tk hk => ⟨rfl, h₃, tk, rfl, hk⟩
  self := W.self
theorem Src.list {scope : Scope} {cl : List (Str × Addr)} {x : Str} {px : Pos} {I ax : Addr} {items : Array Value} (hh : A.handled = none) (hne : ax ≠ I) (hI : h₁.get? I = none) (j : Nat) (hj : ksC[j]? = some x) :
    Src w A g d os env h₁ I (.Name x px) scope cl ksC gsC items.size (fun i vs => ∃ v, items[i]? = some v ∧ vs[j]? = some (some v)) [I, ax] [I] (fun i h => h.IsListIter I ax i ∧ h.IsList ax items) :=
  Src.ofWalks (Walks.list hh I ax hne items) (fun i h st b hb => by
    rcases List.mem_cons.mp hb with rfl | hb
    · obtain ⟨o, e, _⟩ := st.1; exact ⟨o, e⟩
    · rw [List.mem_singleton.mp hb]; obtain ⟨o, e, _⟩ := st.2; exact ⟨o, e⟩) (fun b hb => by rw [List.mem_singleton.mp hb]; exact hI) j hj

theorem compN {h₀ : Heap} {vs : List (Option Value)} {σ : List Reg} {elt target iter : Expr} {ifs : List Expr} {scope : Scope} {cl : List (Str × Addr)} {pos : Pos} {I : Addr} {n : Nat} {V : Nat → List (Option Value) → Prop} {fp wr : List Addr} {St : Nat → Heap → Prop} {Q : Value → Shared → Prop}
    (S : Fm w h₀ L ks vs σ h₁) (W : Src w A g d os env h₁ I target scope cl ksC gsC n V fp wr St) (hsz : n ≤ 100000) (p : Nat → Bool) (F : Nat → Value → Option Obj → Prop)
    (hso : (scopeOk scope ksC gsC && noCells scope) = true) (VE : EnvOk env L ks gs) (k : Keep h₁ h₂) (hwr : ∀ b ∈ wr, h₁.get? b = none) (hfp : ∀ b ∈ fp, b < h₂.objs.size) (hst : St 0 h₂)
    (htest : ∀ C i vs h' t', i < n → EnvOk (compEnvC scope cl C env) C ksC gsC → Fm w h₁ C ksC vs [] h' → V i vs → wpAny (Md w) A (testsOf ifs (compEnvC scope cl C env)) (fun ok s => ok = p i ∧ ∃ h'' t'', s = sh h'' g d t'' os ∧ Keep h' h'') No (sh h' g d t' os))
    (helt : ∀ C i vs h' t', i < n → p i = true → EnvOk (compEnvC scope cl C env) C ksC gsC → Fm w h₁ C ksC vs [] h' → V i vs →
      wpAny (Md w) A (eval elt (compEnvC scope cl C env)) (fun y s => ∃ h'' t'' ob, s = sh h'' g d t'' os ∧ Keep h' h'' ∧ F i y ob ∧ ∀ o, ob = some o → ∃ T, y = .ref T ∧ h''.get? T = some o ∧ h'.get? T = none) No (sh h' g d t' os))
    (hQ : ∀ D h' t' zs, Fm w h₀ L ks vs (rZ D zs :: σ) h' → Paired (fun i (z : Value × Option Obj) => F i z.1 z.2) ((List.range n).filter p) zs → Q (.ref D) (sh h' g d t' os)) :
    wpAny (Md w) A (newList []) (fun acc s₃ => wpAny (Md w) A (newFunctionEnv scope env.globals cl [] env.qual none .none (some env)) (fun cenv s₄ =>
      codeAny (Md w) A (.compStart (.ListComp elt [⟨target, iter, ifs, 0⟩] scope pos) 0 (.ref I) acc { cenv with scope := relabel scope env }) (compPost (Md w) A E none Q acc cenv.locals) s₄) E s₃) E (sh h₂ g d t os) := by
  refine comp_go (RR := compPost (Md w) A E none Q) W hsz p F hso VE S.tp k hwr hfp hst htest helt fun D C h' t' zs m hn k' hC hCz hZ hf hP => ?_
  refine ⟨m, hn, fun h'' hs => hQ D h'' t' zs ?_ hP⟩
  exact (S.add k' (rZ D zs) hZ hf).off (fp := [C]) (fun b hb => by
    rw [List.mem_singleton.mp hb]
    have O := S.offNew (fp := [C]) (fun b hb => by rw [List.mem_singleton.mp hb]; exact hC) C (List.mem_singleton.mpr rfl)
    refine ⟨O.1, O.2.1, fun i r hi => ?_⟩
    cases i with
    | zero => cases hi; exact hCz
    | succ i => exact O.2.2 i r hi) fun b o hb e => hs.extBut b o (fun q => hb (by rw [q]; exact List.mem_singleton.mpr rfl)) e
theorem compA {h₀ : Heap} {vs : List (Option Value)} {σ : List Reg} {elt target iter : Expr} {ifs : List Expr} {scope : Scope} {cl : List (Str × Addr)} {pos py : Pos} {y : Str} {I : Addr} {n : Nat} {V : Nat → List (Option Value) → Prop} {fp wr : List Addr} {St : Nat → Heap → Prop} {Q : Value → Shared → Prop} (iy : Nat)
    (S : Fm w h₀ L ks vs σ h₁) (W : Src w A g d os env h₁ I target scope cl ksC gsC n V fp wr St) (hsz : n ≤ 100000) (p : Nat → Bool) (F : Nat → Value → Option Obj → Prop)
    (hso : (scopeOk scope ksC gsC && noCells scope) = true) (VE : EnvOk env L ks gs) (k : Keep h₁ h₂) (hwr : ∀ b ∈ wr, h₁.get? b = none) (hfp : ∀ b ∈ fp, b < h₂.objs.size) (hst : St 0 h₂)
    (hiy : ks[iy]? = some y) (hvy : (vs[iy]?).isSome = true)
    (htest : ∀ C i vs h' t', i < n → EnvOk (compEnvC scope cl C env) C ksC gsC → Fm w h₁ C ksC vs [] h' → V i vs → wpAny (Md w) A (testsOf ifs (compEnvC scope cl C env)) (fun ok s => ok = p i ∧ ∃ h'' t'', s = sh h'' g d t'' os ∧ Keep h' h'') No (sh h' g d t' os))
    (helt : ∀ C i vs h' t', i < n → p i = true → EnvOk (compEnvC scope cl C env) C ksC gsC → Fm w h₁ C ksC vs [] h' → V i vs →
      wpAny (Md w) A (eval elt (compEnvC scope cl C env)) (fun y s => ∃ h'' t'' ob, s = sh h'' g d t'' os ∧ Keep h' h'' ∧ F i y ob ∧ ∀ o, ob = some o → ∃ T, y = .ref T ∧ h''.get? T = some o ∧ h'.get? T = none) No (sh h' g d t' os))
    (hQ : ∀ D h' t' zs, Fm w h₀ L ks (vs.set iy (some (.ref D))) (rZ D zs :: σ) h' → Paired (fun i (z : Value × Option Obj) => F i z.1 z.2) ((List.range n).filter p) zs → Q .none (sh h' g d t' os)) :
    wpAny (Md w) A (newList []) (fun acc s₃ => wpAny (Md w) A (newFunctionEnv scope env.globals cl [] env.qual none .none (some env)) (fun cenv s₄ =>
      codeAny (Md w) A (.compStart (.ListComp elt [⟨target, iter, ifs, 0⟩] scope pos) 0 (.ref I) acc { cenv with scope := relabel scope env }) (compPost (Md w) A E (some (assign (.Name y py) env)) Q acc cenv.locals) s₄) E s₃) E (sh h₂ g d t os) := by
  refine comp_go (RR := compPost (Md w) A E (some (assign (.Name y py) env)) Q) W hsz p F hso VE S.tp k hwr hfp hst htest helt fun D C h' t' zs m hn k' hC hCz hZ hf hP => ?_
  show wpAny _ A (assign (.Name y py) env (.ref D)) _ _ _
  have O := S.offNew (fp := [C]) (fun b hb => by rw [List.mem_singleton.mp hb]; exact hC) C (List.mem_singleton.mpr rfl)
  refine wpAny_assign_Name (stX iy VE (S.add k' (rZ D zs) hZ hf) hiy hvy fun h₅ t₅ S₅ hx₅ => ?_)
  refine ⟨m, hn.at' fun o e => hx₅ C o O.1 e, fun h'' hs => hQ D h'' t₅ zs ?_ hP⟩
  exact S₅.off (fp := [C]) (fun b hb => by
    rw [List.mem_singleton.mp hb]
    refine ⟨O.1, O.2.1, fun i r hi => ?_⟩
    cases i with
    | zero => cases hi; exact hCz
    | succ i => exact O.2.2 i r hi) fun b o hb e => hs.extBut b o (fun q => hb (by rw [q]; exact List.mem_singleton.mpr rfl)) e
end
end Mine
end
section
open PySem PySem.W PySem.W.X PyProof.Rows PySem.Calls
set_option maxRecDepth 100000
set_option maxHeartbeats 2000000
namespace Mine

section
variable {w : World} {A : Around} {E : Value → Shared → Prop} {R : Result → Shared → Prop} {h₀ h : Heap} {env : Env} {L : Addr} {ks gs : List Str} {vs : List (Option Value)} {σ : List Reg} {g : Array GenState} {d : Drawn} {t : Nat} {os : OsState}
def rLI (I ax : Addr) (i : Nat) : Reg where
  fp := [I]
  P h := h.IsListIter I ax i
  fr := fun h h' p k => p.at fun o e => k I (List.mem_singleton.mpr rfl) o e
  al := fun h p b hb => by rw [List.mem_singleton.mp hb]; exact ⟨_, p.choose_spec.1⟩
def rRI (I : Addr) (a : Int) (n i : Nat) : Reg where
  fp := [I]
  P h := IsRangeIter h I (a + (i : Nat) * 1) ((n : Int) - (i : Nat)) 1
  fr := fun h h' p k => k I (List.mem_singleton.mpr rfl) _ p
  al := fun h p b hb => by rw [List.mem_singleton.mp hb]; exact ⟨_, p⟩
/-- a for loop: It i is the iterator's part before the turn i -/
theorem forGen {target : Expr} {body : List Stmt} {I : Addr} {n : Nat} (It : Nat → Reg) (P : Nat → Value → Prop) (hfp : ∀ i, (It i).fp = [I])
    (J : Nat → List (Option Value) → List Reg → Array GenState → Prop)
    (nxt : ∀ i vs σ g h' t', i < n → J i vs σ g → Fm w h₀ L ks vs (It i :: σ) h' → wpAny (Md w) A (pyNext (.ref I)) (fun r s => ∃ v h'' t'', r = some v ∧ P i v ∧ s = sh h'' g d t'' os ∧ (It (i + 1)).P h'' ∧ ∀ b o, b ∉ [I] → h'.get? b = some o → h''.get? b = some o) No (sh h' g d t' os))
    (fin : ∀ vs σ g h' t', J n vs σ g → Fm w h₀ L ks vs (It n :: σ) h' → wpAny (Md w) A (pyNext (.ref I)) (fun r s => r = none ∧ ∃ h'' t'', s = sh h'' g d t'' os ∧ ∀ b o, b ∉ [I] → h'.get? b = some o → h''.get? b = some o) No (sh h' g d t' os))
    (step : ∀ i v vs σ g h' t', i < n → P i v → J i vs σ g → Fm w h₀ L ks vs (It (i + 1) :: σ) h' →
      wpAny (Md w) A (letOwnedTupleGo target (.ref I) v) (fun _ s₁ => wpAny (Md w) A (assign target env v) (fun _ s₂ => wpAny (Md w) A (execs body env) (fun f s => match f with
        | .next | .cont => ∃ h'' g'' t'' vs' σ', s = sh h'' g'' d t'' os ∧ Fm w h₀ L ks vs' (It (i + 1) :: σ') h'' ∧ J (i + 1) vs' σ' g''
        | .brk => False
        | .ret v => R (.ok (.ret v)) s) No s₂) No s₁) No (sh h' g d t' os))
    (hR : ∀ h' g' t' vs σ, J n vs σ g' → Fm w h₀ L ks vs σ h' → R (.ok .next) (sh h' g' d t' os))
    (S : Fm w h₀ L ks vs (It 0 :: σ) h) (h0 : J 0 vs σ g) :
    codeAny (Md w) A (.forLoop target (.ref I) body [] env) R (sh h g d t os) := by
  refine codeAny_forLoop_any (fun q s => ∃ (i : Nat) (h' : Heap) (g' : Array GenState) (t' : Nat) (vs : List (Option Value)) (σ : List Reg), q = n - i ∧ i ≤ n ∧ s = sh h' g' d t' os ∧ Fm w h₀ L ks vs (It i :: σ) h' ∧ J i vs σ g') ?_ n ⟨0, h, g, t, vs, σ, rfl, Nat.zero_le _, rfl, S, h0⟩
  rintro q s ⟨i, h', g', t', vs, σ, rfl, hi, rfl, S, hJ⟩
  by_cases hlt : i < n
  · refine wpAny_mono (nxt i vs σ g' h' t' hlt hJ S) ?_ fun _ _ x => x.elim
    rintro r s₁ ⟨v, h2, t2, rfl, hP, rfl, hIt, hk⟩
    have hfpi : ∀ b, b ∉ (It i).fp ↔ b ∉ [I] := fun b => by rw [hfp i]
    have S2 : Fm w h₀ L ks vs (It (i + 1) :: σ) h2 := S.put 0 rfl (It (i + 1)) (fun b o hb e => hk b o ((hfpi b).mp hb) e) hIt (fun b hb => .inl (by rw [hfp i]; rw [hfp (i + 1)] at hb; exact hb))
    refine wpAny_mono (step i v vs σ g' h2 t2 hlt hP hJ S2) (fun _ s₂ h2 => wpAny_mono h2 (fun _ s₃ h3 => wpAny_mono h3 (fun f s4 h4 => ?_) fun _ _ x => x.elim) fun _ _ x => x.elim) fun _ _ x => x.elim
    have nx : (∃ h'' g'' t'' vs' σ', s4 = sh h'' g'' d t'' os ∧ Fm w h₀ L ks vs' (It (i + 1) :: σ') h'' ∧ J (i + 1) vs' σ' g'') → ∃ m, m < n - i ∧ ∃ (i : Nat) (h' : Heap) (g' : Array GenState) (t' : Nat) (vs : List (Option Value)) (σ : List Reg), m = n - i ∧ i ≤ n ∧ s4 = sh h' g' d t' os ∧ Fm w h₀ L ks vs (It i :: σ) h' ∧ J i vs σ g' := by
      rintro ⟨h5, g5, t5, vs5, σ5, rfl, S5, J5⟩
      exact ⟨n - (i + 1), by omega, i + 1, h5, g5, t5, vs5, σ5, rfl, hlt, rfl, S5, J5⟩
    cases f with
    | next => exact nx h4
    | cont => exact nx h4
    | brk => exact h4.elim
    | ret v => exact h4
  · have hin : i = n := by omega
    subst hin
    refine wpAny_mono (fin vs σ g' h' t' hJ S) ?_ fun _ _ x => x.elim
    rintro r s₁ ⟨rfl, h2, t2, rfl, hk⟩
    have O : Off [I] h₀ L σ := fun b hb => by
      have hb0 : b ∈ (It i).fp := by rw [hfp i]; exact hb
      refine ⟨((S.led 0 (It i) rfl).2 b hb0).1, ((S.led 0 (It i) rfl).2 b hb0).2, fun j r hj hb' => S.dj 0 (j + 1) (It i) r (by omega) rfl hj b hb0 hb'⟩
    exact wpAny_execs_nil (hR h2 g' t2 vs σ hJ ((S.drop 1).off O hk))
theorem forList {target : Expr} {body : List Stmt} {ax : Addr} {items : Array Value} {Q : Flow → Shared → Prop} (hh : A.handled = none)
    (J : Nat → List (Option Value) → List Reg → Array GenState → Prop) (hax : ∀ i vs σ g h' σ', J i vs σ g → Fm w h₀ L ks vs (σ' :: σ) h' → h'.IsList ax items)
    (step : ∀ I i v vs σ g h' t', items[i]? = some v → J i vs σ g → Fm w h₀ L ks vs (rLI I ax (i + 1) :: σ) h' →
      wpAny (Md w) A (letOwnedTupleGo target (.ref I) v) (fun _ s₁ => wpAny (Md w) A (assign target env v) (fun _ s₂ => wpAny (Md w) A (execs body env) (fun f s => match f with
        | .next | .cont => ∃ h'' g'' t'' vs' σ', s = sh h'' g'' d t'' os ∧ Fm w h₀ L ks vs' (rLI I ax (i + 1) :: σ') h'' ∧ J (i + 1) vs' σ' g''
        | .brk => False
        | .ret v => Q (.ret v) s) No s₂) No s₁) No (sh h' g d t' os))
    (hR : ∀ h' g' t' vs σ, J items.size vs σ g' → Fm w h₀ L ks vs σ h' → Q .next (sh h' g' d t' os))
    (S : Fm w h₀ L ks vs σ h) (h0 : J 0 vs σ g) (hl : h.IsList ax items) :
    wpAny (Md w) A (pyIter (.ref ax)) (fun it s₂ => codeAny (Md w) A (.forLoop target it body [] env) (fun r s' => match r with | .ok f => Q f s' | .error e => cameBackBy (Md w) A env E e s') s₂) E (sh h g d t os) := by
  refine wpAny_pyIter_list hl ?_
  have hIt : (rLI h.objs.size ax 0).P (h.push { cls := .type "list_iterator", data := .fields #[.ref ax, .int 0 0] }) := ⟨_, Heap.get?_push_size _ rfl, rfl, rfl⟩
  refine forGen (It := rLI h.objs.size ax) (P := fun i v => items[i]? = some v) (fun _ => rfl) J (n := items.size) ?_ ?_ (fun i v vs σ g h' t' _ hP hJ S => step _ i v vs σ g h' t' hP hJ S) hR (S.add (Keep.push _ _) _ hIt (fun b hb => by rw [List.mem_singleton.mp hb]; exact fresh_size h)) h0
  · intro i vs σ g h' t' hi hJ S
    have hne : ax ≠ h.objs.size := Nat.ne_of_lt (by obtain ⟨o, e, _⟩ := hl; exact Heap.lt_size e)
    refine (Walks.list hh h.objs.size ax hne items).item i (sh h' g d t' os) _ _ hi ⟨S.at 0 rfl, hax i vs σ g h' _ hJ S⟩ fun v h'' tk hP hst hk => ?_
    exact ⟨v, h'', tk, rfl, hP, rfl, hst.1, hk⟩
  · intro vs σ g h' t' hJ S
    have hne : ax ≠ h.objs.size := Nat.ne_of_lt (by obtain ⟨o, e, _⟩ := hl; exact Heap.lt_size e)
    refine (Walks.list hh h.objs.size ax hne items).done (sh h' g d t' os) _ _ ⟨S.at 0 rfl, hax _ vs σ g h' _ hJ S⟩ fun h'' tk hk => ?_
    exact ⟨rfl, h'', tk, rfl, hk⟩
theorem forRange {target : Expr} {body : List Stmt} {r : Addr} {a b : Int} {n : Nat} {tk ta tb : Tok} {Q : Flow → Shared → Prop} (hh : A.handled = none) (hn : b - a = n) (hsm : Builtin.Range.small a b 1 = true)
    (J : Nat → List (Option Value) → List Reg → Array GenState → Prop)
    (step : ∀ I i tk vs σ g h' t', i < n → J i vs σ g → Fm w h₀ L ks vs (rRI I a n (i + 1) :: σ) h' →
      wpAny (Md w) A (letOwnedTupleGo target (.ref I) (.int (a + i) tk)) (fun _ s₁ => wpAny (Md w) A (assign target env (.int (a + i) tk)) (fun _ s₂ => wpAny (Md w) A (execs body env) (fun f s => match f with
        | .next | .cont => ∃ h'' g'' t'' vs' σ', s = sh h'' g'' d t'' os ∧ Fm w h₀ L ks vs' (rRI I a n (i + 1) :: σ') h'' ∧ J (i + 1) vs' σ' g''
        | .brk => False
        | .ret v => Q (.ret v) s) No s₂) No s₁) No (sh h' g d t' os))
    (hR : ∀ h' g' t' vs σ, J n vs σ g' → Fm w h₀ L ks vs σ h' → Q .next (sh h' g' d t' os))
    (S : Fm w h₀ L ks vs σ h) (h0 : J 0 vs σ g) (hr : IsRange h r a b 1 ta tb tk) :
    wpAny (Md w) A (pyIter (.ref r)) (fun it s₂ => codeAny (Md w) A (.forLoop target it body [] env) (fun r s' => match r with | .ok f => Q f s' | .error e => cameBackBy (Md w) A env E e s') s₂) E (sh h g d t os) := by
  refine wpAny_pyIter_range hr hsm ?_
  have hsize : Builtin.Range.rangeSize a b 1 = (n : Int) := by
    unfold Builtin.Range.rangeSize
    rw [← hn]
    split <;> (try split) <;> (try omega) <;> simp_all <;> omega
  have hIt : (rRI h.objs.size a n 0).P (h.push { cls := .type "range_iterator", data := .fields #[rawInt a, rawInt (Builtin.Range.rangeSize a b 1), rawInt 1] }) := by
    show IsRangeIter _ _ _ _ _
    have e1 : a + ((0 : Nat) : Int) * 1 = a := by omega
    have e2 : (n : Int) - ((0 : Nat) : Int) = Builtin.Range.rangeSize a b 1 := by rw [hsize]; omega
    rw [e1, e2]
    exact Heap.get?_push_size _ rfl
  refine forGen (It := rRI h.objs.size a n) (P := fun i v => ∃ t, v = .int (a + i * 1) t) (fun _ => rfl) J (n := n) ?_ ?_ (fun i v vs σ g h' t' hi hP hJ S => ?_) hR (S.add (Keep.push _ _) _ hIt (fun b hb => by rw [List.mem_singleton.mp hb]; exact fresh_size h)) h0
  · intro i vs σ g h' t' hi hJ S
    refine (Walks.range hh h.objs.size a 1 n).item i (sh h' g d t' os) _ _ hi (S.at 0 rfl) fun v h'' tk hP hst hk => ?_
    exact ⟨v, h'', tk, rfl, hP, rfl, hst, hk⟩
  · intro vs σ g h' t' hJ S
    refine (Walks.range hh h.objs.size a 1 n).done (sh h' g d t' os) _ _ (S.at 0 rfl) fun h'' tk hk => ?_
    exact ⟨rfl, h'', tk, rfl, hk⟩
  · obtain ⟨tk, rfl⟩ := hP
    rw [Int.mul_one]
    exact step _ i tk vs σ g h' t' hi hJ S
end
end Mine
end
section
open PySem PySem.W PySem.W.X PyProof.Rows PySem.Calls
set_option maxRecDepth 100000
set_option maxHeartbeats 2000000
namespace Mine

theorem TupsAt.tup {h : Heap} : ∀ {Ts : List Addr} {r : List (Nat × Str)}, TupsAt h Ts r → ∀ b ∈ Ts, ∃ xs, h.get? b = some (tupleObj xs)
  | [], [], _, b, hb => nomatch hb
  | T :: Ts, p :: r, x, b, hb => by
    rcases List.mem_cons.mp hb with rfl | hb
    · exact ⟨_, x.1.choose_spec.choose_spec⟩
    · exact TupsAt.tup x.2 b hb
section
variable {w : World} {A : Around} {E : Value → Shared → Prop} {h₀ h h' h'' : Heap} {env : Env} {L : Addr} {ks gs : List Str} {vs : List (Option Value)} {σ : List Reg} {g : Array GenState} {d : Drawn} {t : Nat} {os : OsState}
theorem swapsOk {elt : Expr} {gens : List Comprehension} {scope : Scope} {pos py : Pos} {y : Str} {line : Nat} (V : EnvOk env L ks gs) (i : Nat) (hy : ks[i]? = some y) (hl : (py.line == pos.line) = true)
    (hn : (scope.names.any fun (n, k) => n == y && (k == .local || k == .cell)) = false) : swapsWith (.ListComp elt gens scope pos) (some (.Name y py)) line env = pure true := by
  have h1 : env.blockKind = .function := by unfold Env.blockKind; rw [V.kind]; rfl
  have h2 : env.kindOf y = some .local := (scopeOk.local V.sc (List.mem_of_getElem? hy)).1
  have h3 : (Expr.ListComp elt gens scope pos).pos = pos := rfl
  unfold swapsWith
  show (pure (env.blockKind == .function && env.kindOf y == some .local && py.line == (Expr.ListComp elt gens scope pos).pos.line && !(scope.names.any fun (n, k) => n == y && (k == .local || k == .cell))) : Sem Bool) = pure true
  rw [h1, h2, h3, hl, hn]; rfl
def namesOk (scope : Scope) : Bool := scope.names.all fun y => y.2 != .local || scope.names.lookup y.1 == some .local
theorem namesOk.get {scope : Scope} (h : namesOk scope = true) : ∀ y ∈ scope.names, y.2 = .local → scope.names.lookup y.1 = some .local := fun y hy e => by
  have := List.all_eq_true.mp h y hy
  rw [e] at this
  simpa using this
theorem compAssign {elt target iter : Expr} {ifs : List Expr} {scope : Scope} {cl : List (Str × Addr)} {pos py spos : Pos} {y : Str} {Q : Flow → Shared → Prop} {s : Shared}
    (hsw : swapsWith (.ListComp elt [⟨target, iter, ifs, 0⟩] scope pos) (some (.Name y py)) spos.line env = pure true) (hclos : closureFor scope env = pure cl) (hkind : scope.kind = .function) (hnm : namesOk scope = true)
    (h : wpAny (Md w) A (eval iter env) (fun xv s₁ => wpAny (Md w) A (pyIter xv) (fun it s₂ => wpAny (Md w) A (newList []) (fun acc s₃ => wpAny (Md w) A (newFunctionEnv scope env.globals cl [] env.qual none .none (some env)) (fun cenv s₄ =>
      codeAny (Md w) A (.compStart (.ListComp elt [⟨target, iter, ifs, 0⟩] scope pos) 0 it acc { cenv with scope := relabel scope env }) (compPost (Md w) A E (some (assign (.Name y py) env)) (fun _ s' => Q .next s') acc cenv.locals) s₄) E s₃) E s₂) E s₁) E s)
    (hs : ∀ x, foldedSetIterable iter env x = pure x := by intro _; rfl) :
    wpAny (Md w) A (exec (.Assign [.Name y py] (.ListComp elt [⟨target, iter, ifs, 0⟩] scope pos) spos) env) Q E s := by
  rw [exec_Assign_Name_used _ _ _ _ hsw]
  refine wpAny_bind (wpAny_standAt (wpAny_bind ?_))
  show wpAny _ A (do let _ ← comprehension (.ListComp elt [⟨target, iter, ifs, 0⟩] scope pos) scope env _ (newList []) false (eval iter env) (some (assign (.Name y py) env))) _ _ s
  exact wpAny_bind (wpAny_mono (wpAny_comprehension_free (use := some (assign (.Name y py) env)) (Q := fun _ s' => Q .next s') rfl hs hclos hkind (namesOk.get hnm) h) (fun _ s' hq => wpAny_pure (wpAny_pure hq)) fun _ _ e => e)
theorem compEval {elt target iter : Expr} {ifs : List Expr} {scope : Scope} {cl : List (Str × Addr)} {pos : Pos} {Q : Value → Shared → Prop} {s : Shared} (hclos : closureFor scope env = pure cl) (hkind : scope.kind = .function) (hnm : namesOk scope = true)
    (h : wpAny (Md w) A (eval iter env) (fun xv s₁ => wpAny (Md w) A (pyIter xv) (fun it s₂ => wpAny (Md w) A (newList []) (fun acc s₃ => wpAny (Md w) A (newFunctionEnv scope env.globals cl [] env.qual none .none (some env)) (fun cenv s₄ =>
      codeAny (Md w) A (.compStart (.ListComp elt [⟨target, iter, ifs, 0⟩] scope pos) 0 it acc { cenv with scope := relabel scope env }) (compPost (Md w) A E none Q acc cenv.locals) s₄) E s₃) E s₂) E s₁) E s)
    (hs : ∀ x, foldedSetIterable iter env x = pure x := by intro _; rfl) :
    wpAny (Md w) A (eval (.ListComp elt [⟨target, iter, ifs, 0⟩] scope pos) env) Q E s := by
  rw [eval_ListComp]
  exact wpAny_comprehension_free (use := none) rfl hs hclos hkind (namesOk.get hnm) h
theorem Fm.tupApp (S : Fm w h₀ L ks vs σ h) (i : Nat) {D : Addr} {Ts : List Addr} {r : List (Nat × Str)} (hi : σ[i]? = some (rU D Ts r)) {T : Addr} {tk tu : Tok} {p : Nat × Str} (hT : h'.get? T = some (tupleObj #[.int p.1 tk, .str p.2 tu])) (hn : h.get? T = none) (k : Keep h h')
    (hl : h''.PlainList D ((Ts.map Value.ref).toArray.push (.ref T))) (hx : Heap.ExtBut D h' h'') : Fm w h₀ L ks vs (σ.set i (rU D (Ts ++ [T]) (r ++ [p]))) h'' := by
  have hP := S.at i hi
  have hTD : T ≠ D := fun e => by
    obtain ⟨n, q⟩ := hP.1
    rw [← e, hn] at q; cases q
  have hne : ∀ b ∈ Ts, b ≠ D := fun b hb e => by
    obtain ⟨xs, q⟩ := hP.2.tup b hb
    obtain ⟨n, q'⟩ := hP.1
    rw [e, q'] at q
    injection q with q
    injection q with q
    injection q with q
    exact absurd q (by decide)
  refine S.put i hi _ (fun b o hb e => hx b o (fun q => hb (by rw [q]; exact List.mem_cons_self ..)) (k b o e)) ⟨?_, ?_⟩ (fun b hb => ?_)
  · rw [show (List.map Value.ref (Ts ++ [T])).toArray = (List.map Value.ref Ts).toArray.push (.ref T) by simp]; exact hl
  · exact TupsAt.snoc (hx T _ hTD hT) (hP.2.same fun b hb o e => hx b o (hne b hb) (k b o e))
  · rcases List.mem_cons.mp hb with rfl | hb
    · exact .inl (List.mem_cons_self ..)
    · rcases List.mem_append.mp hb with hb | hb
      · exact .inl (List.mem_cons_of_mem _ hb)
      · rw [List.mem_singleton.mp hb]; exact .inr hn
end
def unitsL : List Str → Nat → List (Nat × Str)
  | [], _ => []
  | w :: r, n => (n + w.length - 1, w) :: unitsL r (n + w.length)
def sumL (ws : List Str) : Nat := (ws.map (·.length)).sum
theorem unitsL_snoc (w : Str) : ∀ (ws : List Str) (n : Nat), unitsL (ws ++ [w]) n = unitsL ws n ++ [(n + sumL ws + w.length - 1, w)]
  | [], n => by simp [unitsL, sumL]
  | v :: r, n => by
    rw [List.cons_append, unitsL, unitsL_snoc w r, unitsL, List.cons_append]
    congr 3
    simp [sumL]; omega
abbrev ksU : List Str := [Str.ofString "words", Str.ofString "units", Str.ofString "size", Str.ofString "word"]
theorem unitsCall {w : World} {k : Nat} {A : Around} {E : Value → Shared → Prop} {Q : Value → Shared → Prop} {h : Heap} {g : Array GenState} {d : Drawn} {t : Nat} {os : OsState} (o : Ok (k + 4) A) (T : Tp w h) {wl : Addr} {l : List (Str × Tok)}
    (hl : h.IsList wl (strValues l).toArray) (hne : ∀ y ∈ l.map (·.1), 1 ≤ y.length ∧ y.length ≤ 2) (hlen : l.length ≤ 100)
    (hq : ∀ S Ts h' t', Keep h h' → (rU S Ts (unitsL (l.map (·.1)) 0)).P h' → h.get? S = none → (∀ T ∈ Ts, h.get? T = none) → Q (.ref S) (sh h' g d t' os)) :
    wpAny (Md w) A (call (.ref 221) [.ref wl]) Q E (sh h g d t os) := by
  refine' enter (k := k + 3) o T ?ho ?hcd [Str.ofString "words"] [Str.ofString "units", Str.ofString "size", Str.ofString "word"] [Str.ofString "len"] ?hsc ?hb ?hl ?_
  case ho => exact rfl
  case hcd => exact rfl
  case hsc => decide +kernel
  case hb => exact rfl
  case hl => exact rfl
  intro L h₁ t₁ env V S o₁
  refine wpAny_execs_cons (wpAny_Assign_Name (List_ (spliced_none (newL (Nat.zero_le _) ?_))))
  have S := S.add (Keep.push h₁ _) (rU h₁.objs.size [] []) ⟨plain_push h₁ _, trivial⟩ (fun b hb => by rw [List.mem_singleton.mp hb]; exact fresh_size h₁)
  refine st 1 V S rfl rfl fun h₄ t₄ S => ?_
  refine wpAny_execs_cons (wpAny_Assign_Name (ci fun k1 t2 => st 2 V S rfl rfl fun h₂ t₂ S => ?_))
  generalize h₁.objs.size = D at S
  refine wpAny_execs_cons (wpAny_For (nm 0 V S rfl rfl ?_))
  have hwl : h₂.IsList wl (strValues l).toArray := hl.at fun o e => S.keep _ _ e
  refine forList o₁.hd (fun i vs σ g' => g' = g ∧ ∃ (Ts : List Addr) (ts : Tok) (wv : Option Value), vs = [some (.ref wl), some (.ref D), some (.int ((sumL ((l.map (·.1)).take i) : Nat) : Int) ts), wv] ∧ σ = [rU D Ts (unitsL ((l.map (·.1)).take i) 0)])
    (fun i vs σ g h' σ' _ S' => hl.at fun o e => S'.keep _ _ e) ?_ ?_ S ⟨rfl, [], _, _, rfl, rfl⟩ hwl
  · rintro I i v vs σ g' h' t' hv ⟨rfl, Ts, ts, wv, rfl, rfl⟩ S
    refine wpAny_pure ?_
    have hi : i < l.length := by
      have := (Array.getElem?_eq_some_iff.mp hv).1
      simpa [strValues] using this
    obtain ⟨⟨y, ty⟩, hy⟩ : ∃ p, l[i]? = some p := ⟨_, List.getElem?_eq_getElem hi⟩
    have hv' : v = .str y ty := by
      have : (strValues l)[i]? = some (.str y ty) := by simp [strValues, hy]
      rw [List.getElem?_toArray, this] at hv
      exact (Option.some.inj hv).symm
    subst hv'
    have hyl := hne y (List.mem_map.mpr ⟨_, List.mem_of_getElem? hy, rfl⟩)
    have htake : (l.map (·.1)).take (i + 1) = (l.map (·.1)).take i ++ [y] := by
      rw [List.take_add_one]; simp [hy]
    have hsum : sumL ((l.map (·.1)).take (i + 1)) = sumL ((l.map (·.1)).take i) + y.length := by rw [htake]; simp [sumL]
    have hTl : Ts.length ≤ 100 := by
      have h1 := (S.at 1 rfl : (rU D Ts _).P _).2.len
      have h2 : ∀ (ws : List Str) (n : Nat), (unitsL ws n).length = ws.length := by
        intro ws
        induction ws with
        | nil => intro n; rfl
        | cons a r ih => intro n; simp [unitsL, ih]
      rw [h2] at h1
      have h3 : ((l.map (·.1)).take i).length ≤ i := by simp; omega
      omega
    refine wpAny_assign_Name (st 3 V S rfl rfl fun h₅ t₅ S => ?_)
    refine wpAny_execs_cons (wpAny_AugAssign_Name (ldn 2 V S rfl rfl (Call_Name1 (bi (v := .builtin "len") V S.tp (by decide) (by rfl) (by rfl) (by decide) (PySem.callWith_builtin1 (nm 3 V S rfl rfl (lenS (by rw [sizeLine_eq]; omega) fun k3 t9 => iadd_int ?_)))))))
    refine st 2 V S rfl rfl fun h₆ t₆ S => ?_
    refine wpAny_execs_cons (wpAny_Expr (app1 rfl rfl rfl (by rw [sizeLine_eq]; simp; omega) (fun Q' q => nm 1 V S rfl rfl q) (S.at 1 rfl : (rU D Ts _).P _).1 (Tuple_ (spliced_more (wpAny_BinOp (nm 2 V S rfl rfl (ci fun k5 t7 => subI fun k6 t8 => spliced_more (nm 3 V S rfl rfl (spliced_none (mkTup ?_ (two _ _))))))))) ) V.inter)
    refine ⟨(S.kept (Keep.push _ _) |>.at 1 rfl : (rU D Ts _).P _).1, fun h'' hl' hx => ?_⟩
    refine wpAny_execs_nil ?_
    have hT : (h₆.push (tupleObj #[.int (((sumL ((l.map (·.1)).take i) : Nat) : Int) + (y.length : Int) - 1) k6, .str y ty])).get? h₆.objs.size = some (tupleObj #[.int ((sumL ((l.map (·.1)).take i) + y.length - 1 : Nat) : Int) k6, .str y ty]) := by
      rw [show (((sumL ((l.map (·.1)).take i) : Nat) : Int) + (y.length : Int) - 1) = ((sumL ((l.map (·.1)).take i) + y.length - 1 : Nat) : Int) by omega]
      exact Heap.get?_push_size _ rfl
    have S7 := S.tupApp 1 rfl (T := h₆.objs.size) (p := (sumL ((l.map (·.1)).take i) + y.length - 1, y)) hT (fresh_size h₆) (Keep.push _ _) hl' hx
    refine ⟨h'', g', _, _, _, rfl, S7, rfl, Ts ++ [h₆.objs.size], t9, some (.str y ty), (by rw [hsum, Int.natCast_add]; rfl), ?_⟩
    rw [htake, unitsL_snoc, Nat.zero_add]; rfl
  · rintro h' g' t' vs σ ⟨rfl, Ts, ts, wv, rfl, rfl⟩ S
    refine wpAny_execs_cons (wpAny_Return_some (nm 1 V S rfl rfl ?_))
    have e : (l.map (·.1)).take (strValues l).toArray.size = l.map (·.1) := by
      refine List.take_of_length_le ?_
      simp [strValues]
    rw [e] at S
    have hf := (S.led 0 _ rfl).2
    exact hq D Ts h' t' S.keep (S.at 0 rfl) (hf D (List.mem_cons_self ..)).2 (fun b hb => (hf b (List.mem_cons_of_mem _ hb)).2)
end Mine
end
section
open PySem PySem.W PySem.W.X PyProof.Rows PySem.Calls
set_option maxRecDepth 100000
set_option maxHeartbeats 2000000
namespace Mine

section
variable {w : World} {A : Around} {E : Value → Shared → Prop} {h₀ h h' h'' : Heap} {env : Env} {L : Addr} {ks gs : List Str} {vs : List (Option Value)} {σ : List Reg} {g : Array GenState} {d : Drawn} {t : Nat} {os : OsState} {Q : Value → Shared → Prop}
theorem zInts {f : Nat → Int} : ∀ {is : List Nat} {zs : List (Value × Option Obj)}, Paired (fun i (z : Value × Option Obj) => z.2 = none ∧ ∃ tk, z.1 = .int (f i) tk) is zs → IntsAre (zVals zs) (is.map f)
  | _, _, .nil => .nil
  | _, _, .cons ⟨_, tk, e⟩ r => by
    show IntsAre (_ :: _) _
    rw [e]; exact .cons _ _ (zInts r)
theorem range_all (n : Nat) : (List.range n).filter (fun _ => true) = List.range n := by simp
theorem testsNil {cenv : Env} {h : Heap} {t : Nat} : wpAny (Md w) A (testsOf [] cenv) (fun ok s => ok = true ∧ ∃ h'' t'', s = sh h'' g d t'' os ∧ Keep h h'') No (sh h g d t os) := wpAny_tests_nil ⟨rfl, h, t, rfl, Keep.refl h⟩
theorem closNone {scope : Scope} (h : scope.names.all (fun x => x.2 != .free) = true) : closureFor scope env = pure [] := closureFor_none fun x hx => by
  have := List.all_eq_true.mp h x hx
  simpa using this
theorem get_none_push {h₁ : Heap} {o : Obj} : h₁.get? h₁.objs.size = none := fresh_size h₁
/-- a method of a list, one argument -/
theorem meth1 {l : Addr} {items : Array Value} {name : Str} {id : String} {o e : Expr} {apos pos : Pos} (slot : Slot "list" name id) (hty : typeOf (.builtin id) = pure (.type "method_descriptor"))
    (hbase : attributeBase o name env (eval o env) = eval o env) (hs : starEach [e] env = [(false, eval e env)]) (hline : (apos.endLine == pos.line) = true)
    (ho : ∀ Q' : Value → Shared → Prop, Q' (.ref l) (sh h g d t os) → wpAny (Md w) A (eval o env) Q' E (sh h g d t os)) (hl : h.PlainList l items)
    (hx : wpAny (Md w) A (eval e env) (fun x s₂ => wpAny (Md w) A (call (.builtin id) [.ref l, x]) Q E s₂) E (sh h g d t os)) :
    wpAny (Md w) A (eval (.Call (.Attribute o name apos) [e] [] pos) env) Q E (sh h g d t os) := by
  refine Call_method1 hbase hs hline (ho _ ⟨"list", id, F.plainAttrs_list, slot, hty, hl.isList.typeIs, fun a e => ?_, ?_⟩)
  · cases e
    obtain ⟨n, e⟩ := hl
    exact ⟨_, e, rfl⟩
  · exact Calls.callWith_builtin rfl (Calls.evalArgs_plain (Calls.spliced_cons (wpAny_mono hx (fun x s₂ hx => Calls.spliced_nil hx) fun _ _ e => e)))
end
def kinds9 : Str := Str.ofString "rR\"gG\\bB"
def kI (y : Str) : Int := (Txt.find kinds9 (Txt.item y (-1))).fdiv 3
def cntK (ws : List Str) (j : Int) : Int := (((ws.map kI).count j : Nat) : Int)
theorem countsCall {w : World} {k : Nat} {A : Around} {E : Value → Shared → Prop} {Q : Value → Shared → Prop} {h : Heap} {g : Array GenState} {d : Drawn} {t : Nat} {os : OsState} (o : Ok (k + 4) A) (T : Tp w h) {wl : Addr} {l : List (Str × Tok)}
    (hl : h.IsList wl (strValues l).toArray) (hne : ∀ y ∈ l.map (·.1), (Txt.charAt y (-1)).isSome = true) (hlen : l.length ≤ 100)
    (hq : ∀ D h' t' t1 t2 t3, Keep h h' → h'.PlainList D #[.int (cntK (l.map (·.1)) 0) t1, .int (cntK (l.map (·.1)) 1) t2, .int (cntK (l.map (·.1)) 2) t3] → h.get? D = none → Q (.ref D) (sh h' g d t' os)) :
    wpAny (Md w) A (call (.ref 226) [.ref wl]) Q E (sh h g d t os) := by
  refine' enter (k := k + 3) o T ?ho ?hcd [Str.ofString "words"] [Str.ofString "kinds"] [] ?hsc ?hb ?hl ?_
  case ho => exact rfl
  case hcd => exact rfl
  case hsc => decide +kernel
  case hb => exact rfl
  case hl => exact rfl
  intro L h₁ t₁ env V S o₁
  refine wpAny_execs_cons (compAssign (swapsOk V 1 rfl rfl (by decide)) (closNone (by decide)) rfl (by decide) (nm 0 V S rfl rfl ?_))
  have hwl : h₁.IsList wl (strValues l).toArray := hl.at fun o e => S.keep _ _ e
  have hax : wl < h₁.objs.size := by obtain ⟨o, e, _⟩ := hwl; exact Heap.lt_size e
  have hfr := fresh_size h₁
  refine wpAny_pyIter_list hwl ?_
  generalize hI : h₁.objs.size = I at hax hfr
  have hItr : (h₁.push { cls := .type "list_iterator", data := .fields #[.ref wl, .int 0 0] }).IsListIter I wl 0 := ⟨_, by rw [← hI]; exact Heap.get?_push_size _ rfl, rfl, rfl⟩
  refine compA (ksC := [Str.ofString "word"]) (gsC := []) 1 S (Src.list (ksC := [Str.ofString "word"]) (gsC := []) (items := (strValues l).toArray) (I := I) (ax := wl) o₁.hd (Nat.ne_of_lt hax) hfr 0 rfl) (by simp [strValues]; omega) (fun _ => true) (fun i y ob => ob = none ∧ ∃ tk, y = .int (kI ((l.map (·.1)).getD i (Str.ofString ""))) tk)
    (by decide +kernel) V (Keep.push h₁ _) (fun b hb => by rw [List.mem_singleton.mp hb]; exact hfr) ?_ ⟨hItr, hwl.push _⟩ rfl rfl (fun C i vs h' t' _ _ _ _ => testsNil) ?_ ?_
  · intro b hb
    show b < (h₁.push _).objs.size
    rw [Heap.size_push, hI]
    rcases List.mem_cons.mp hb with rfl | hb
    · exact Nat.lt_succ_self _
    · rw [List.mem_singleton.mp hb]; exact Nat.lt_succ_of_lt hax
  · rintro C i vs h' t' hi _ VC S' ⟨v, hv, hvs⟩
    have hi' : i < l.length := by simpa [strValues] using hi
    obtain ⟨⟨y, ty⟩, hy⟩ : ∃ p, l[i]? = some p := ⟨_, List.getElem?_eq_getElem hi'⟩
    have hv' : v = .str y ty := by
      have : (strValues l)[i]? = some (.str y ty) := by simp [strValues, hy]
      rw [List.getElem?_toArray, this] at hv
      exact (Option.some.inj hv).symm
    subst hv'
    have hyc := hne y (List.mem_map.mpr ⟨_, List.mem_of_getElem? hy, rfl⟩)
    have hg : (l.map (·.1)).getD i (Str.ofString "") = y := by simp [List.getD, hy]
    rw [hg]
    refine wpAny_BinOp ?_
    refine Call_method1 ?mma3 ?mmb3 ?mmc3 ?mmd3
    case mma3 => exact rfl
    case mmb3 => exact rfl
    case mmc3 => exact rfl
    refine cs fun k1 t2 => ?_
    refine SB.find ?_
    refine Subscript_UnaryOp (nm 0 VC S' rfl hvs (UnaryOp_ (ci fun k2 t3 => neg_int (SB.item rfl hyc ⟨_, _, rfl, ?_⟩))))
    refine ci fun k4 t5 => divI (by decide) (PyProof.noPylong_small (by decide)) fun k5 t6 => ⟨h', t6, none, rfl, Keep.refl _, ⟨rfl, k5, rfl⟩, fun o e => nomatch e⟩
  · intro D h' t' zs S hP
    rw [range_all] at hP
    have hin := zInts hP
    have hns : (List.range (strValues l).toArray.size).map (fun i => kI ((l.map (·.1)).getD i (Str.ofString ""))) = (l.map (·.1)).map kI := by
      apply List.ext_getElem
      · simp [strValues]
      · intro i h1 h2
        have hi : i < l.length := by simpa [strValues] using h1
        simp [List.getD, List.getElem?_eq_getElem hi]
    rw [hns] at hin
    have hD : h'.PlainList D (zVals zs).toArray := (S.at 0 rfl : (rZ D zs).P _).1
    have cnt : ∀ (j : Int) (kk : Nat) (pos apos p1 p2 : Pos) (t : Nat) (Q' : Value → Shared → Prop) (hline : (apos.endLine == pos.line) = true), (∀ tk t', Q' (.int (cntK (l.map (·.1)) j) tk) (sh h' g d t' os)) →
        wpAny (Md w) (A.deeper env) (eval (.Call (.Attribute (.Name (Str.ofString "kinds") p1) (Str.ofString "count") apos) [.Constant (.int j) 0 p2] [] pos) env) Q' No (sh h' g d t os) := by
      intro j kk pos apos p1 p2 t Q' hline hq'
      exact meth1 F.slot_list_count F.type_list_count rfl rfl hline (fun Q' q => nm 1 V S rfl rfl q) hD (ci fun k1 t2 => count_list_ints hD.isList hin (hq' _ _))
    refine wpAny_execs_cons (wpAny_Return_some (List_ (spliced_more (cnt 0 0 _ _ _ _ _ _ rfl fun k1 t1 => spliced_more (cnt 1 0 _ _ _ _ _ _ rfl fun k2 t2 => spliced_more (cnt 2 0 _ _ _ _ _ _ rfl fun k3 t3 => spliced_none (newL (by rw [sizeLine_eq]; exact (by decide : 3 ≤ 16777216)) ?_)))))))
    exact hq _ _ _ k1 k2 k3 (S.keep.trans (Keep.push _ _)) (plain_push _ _) (by
      cases q : h.get? h'.objs.size with
      | none => rfl
      | some o => exact absurd (Heap.lt_size (S.keep _ _ q)) (Nat.lt_irrefl _))
end Mine
end
section
open PySem PySem.W PySem.W.X PyProof.Rows PySem.Calls
set_option maxRecDepth 100000
set_option maxHeartbeats 2000000
namespace Mine

theorem pa_re : PlainAttrs "re.Pattern" :=
  ⟨⟨"object.__getattribute__", by rw [typeLookup_type, builtinLookup_eq_fast]; kernel_rfl, by decide +kernel⟩, by rw [typeLookup_type, builtinLookup_eq_fast]; kernel_rfl⟩
theorem slot_re : Slot "re.Pattern" "search" "re.Pattern.search" :=
  .of (owner := "re.Pattern") (n := "search") (by rw [typeLookup_type, builtinLookup_eq_fast]; kernel_rfl) (by decide +kernel) (by decide +kernel) (by decide +kernel)
    (by first | exact .inl (by decide +kernel) | exact .inr (by decide +kernel)) (by rw [isSubtype_type]; kernel_rfl)
theorem type_re : typeOf (.builtin "re.Pattern.search") = pure (.type "method_descriptor") := by show builtinType _ = _; rw [builtinType_eq_fast]; kernel_rfl
theorem entry_re : entryFor table "re.Pattern.search" = some Builtin.«re.Pattern.search» := entryFor_of_tree (by kernel_rfl)
theorem args_re (a b : Value) : argsOk "re.Pattern.search" ⟨[a, b], []⟩ := by unfold argsOk; kernel_rfl
end Mine
end
section
open PySem PySem.W PySem.W.X PyProof.Rows PySem.Calls
set_option maxRecDepth 100000
set_option maxHeartbeats 2000000
namespace Mine

section
open PySem.Sre
theorem admitted_none (m : Sre.M) (hno : ∀ s, s < m.lim → ∀ seen, ∃ seen', inSet m.code (m.text.getD s 0) m.code.size 5 true seen = .ok (false, seen')) :
    ∀ (fuel s : Nat) (seen : Sre.Seen), ∃ seen', m.admitted fuel s seen = .ok (none, seen')
  | 0, s, seen => ⟨seen, rfl⟩
  | fuel + 1, s, seen => by
    unfold Sre.M.admitted
    by_cases hs : s ≥ m.lim
    · rw [if_pos hs]; exact ⟨seen, rfl⟩
    · rw [if_neg hs]
      obtain ⟨seen', e⟩ := hno s (by omega) seen
      rw [e]
      exact admitted_none m hno fuel (s + 1) seen'
theorem af_none (m : Sre.M) (hfs : m.hasFirstSet = true) (hno : ∀ s, s < m.lim → ∀ seen, ∃ seen', inSet m.code (m.text.getD s 0) m.code.size 5 true seen = .ok (false, seen')) (hfr : m.frames = []) (ho : m.outcome = none) (s : Nat) (b : Bool) :
    (m.attemptFrom s b).answer = some false ∧ (m.attemptFrom s b).frames = [] ∧ (m.attemptFrom s b).outcome = none := by
  obtain ⟨seen', e⟩ := admitted_none m hno (m.lim + 1 - s) s m.seen
  unfold Sre.M.attemptFrom
  rw [hfs, e]
  exact ⟨rfl, hfr, ho⟩
theorem search_pure (code text : Array Nat) (hf : ∀ m : Sre.M, m.code = code → m.hasFirstSet = true) (hno : ∀ s, s < text.size → ∀ seen, ∃ seen', inSet code (text.getD s 0) code.size 5 true seen = .ok (false, seen')) :
    (Sre.forSearch code text 0 0 text.size false).answer = some false ∧ (Sre.forSearch code text 0 0 text.size false).frames = [] ∧ (Sre.forSearch code text 0 0 text.size false).outcome = none := by
  unfold Sre.forSearch
  dsimp only
  split
  · exact ⟨rfl, rfl, rfl⟩
  · exact af_none _ (hf _ rfl) hno rfl rfl 0 true
theorem runFor_say (m : Sre.M) (h1 : m.answer = some false) (h2 : m.frames = []) (h3 : m.outcome = none) : (m.runFor 4).outcome = some .failed ∧ (m.runFor 4).seen = m.seen := by
  have hs : m.step = { m with outcome := some .failed } := by
    unfold Sre.M.step
    rw [h3, h1, h2]; rfl
  have h4 : m.runFor 4 = { m with outcome := some .failed } := by
    unfold Sre.M.runFor
    rw [h3, hs]
    rfl
  rw [h4]
  exact ⟨rfl, rfl⟩
end
section
variable {w : World} {A : Around} {E : Value → Shared → Prop} {s : Shared}
theorem wp_rules (b : Nat → Bool) (f : Nat → String) {Q : PUnit → Shared → Prop} (hq : Q ⟨⟩ s) : ∀ l : List Nat, wpAny (Md w) A (forIn l PUnit.unit fun i (_ : PUnit) => if b i = true then (do rule (f i); pure (ForInStep.yield PUnit.unit)) else pure (ForInStep.yield PUnit.unit)) Q E s
  | [] => wpAny_pure hq
  | i :: l => by
    rw [List.forIn_cons]
    refine wpAny_bind ?_
    cases b i with
    | true => exact wpAny_bind (wpAny_rule (wpAny_pure (wp_rules b f hq l)))
    | false => exact wpAny_pure (wp_rules b f hq l)
theorem wp_runToEnd (m : Sre.M) (h1 : m.answer = some false) (h2 : m.frames = []) (h3 : m.outcome = none) {Q : Option Sre.M → Shared → Prop} (hq : Q none s) : wpAny (Md w) A (Builtin.Re.reRunToEnd m) Q E s := by
  obtain ⟨r1, r2⟩ := runFor_say m h1 h2 h3
  unfold Builtin.Re.reRunToEnd
  have hd : Builtin.Re.reDrive (2 ^ 64) m = pure (m.runFor 4) := by
    show Builtin.Re.reDrive (18446744073709551615 + 1) m = _
    rw [Builtin.Re.reDrive]
    show (if (m.runFor 4).outcome.isSome = true then _ else _) = _
    rw [r1]; rfl
  rw [hd]
  refine wpAny_bind (wpAny_pure ?_)
  refine wpAny_bind (wp_rules (fun i => (m.runFor 4).seen.has i) (fun i => Sre.names.getD i "") ?_ _)
  rw [r1]
  exact wpAny_pure hq
theorem reNamed_eq (x : Str) (tx : Tok) : Builtin.Re.reNamed "re.Pattern.search" "search" ["string", "pos", "endpos"] 1 [.str x tx] [] = pure [some (.str x tx), none, none] := by rfl
def rawCode (items : Array Value) : Array Nat := (items.map Builtin.Re.reRawOf).map (·.toNat)
theorem searchNone {pa ca : Addr} {x : Str} {tx : Tok} {o : Obj} {v0 v1 v3 v4 : Value} {items : Array Value} {n : Nat} {Q : Value → Shared → Prop}
    (hp : s.heap.get? pa = some { cls := .type "re.Pattern", data := .fields #[v0, v1, .int 0 0, v3, v4, .ref ca, .int 0 0] }) (hc : s.heap.get? ca = some o) (hd : o.data = .seq items n)
    (hf : ∀ m : Sre.M, m.code = rawCode items → m.hasFirstSet = true) (hno : ∀ c ∈ x.cps.toList, ∀ seen, ∃ seen', Sre.inSet (rawCode items) c (rawCode items).size 5 true seen = .ok (false, seen')) (hsz : x.length ≤ 1000) (hq : Q .none s) :
    wpAny (Md w) A (call (.builtin "re.Pattern.search") [.ref pa, .str x tx]) Q E s := by
  refine wpAny_call_entry slot_re ⟨_, hp, rfl⟩ entry_re ?_ (args_re _ _)
  have hno' : ∀ s, s < x.cps.size → ∀ seen, ∃ seen', Sre.inSet (rawCode items) (x.cps.getD s 0) (rawCode items).size 5 true seen = .ok (false, seen') := fun s hs seen => by
    refine hno _ ?_ seen
    simp [Array.getD, hs]
  obtain ⟨h1, h2, h3⟩ := search_pure (rawCode items) x.cps hf hno'
  show wpAny _ _ (Builtin.Re.reTarget "re.Pattern.search" "search" ⟨[.ref pa, .str x tx], []⟩ >>= fun t => Builtin.Re.reAnswer t (Sre.forSearch t.code t.text t.groups t.pos t.lim false)) _ _ s
  refine wpAny_bind ?_
  unfold Builtin.Re.reTarget
  dsimp only
  rw [reNamed_eq]
  refine wpAny_bind (wpAny_pure ?_)
  dsimp only
  refine wpAny_bind (wpAny_pure ?_)
  refine wpAny_bind (wpAny_pure ?_)
  refine wpAny_bind (wpAny_fieldsOf hp rfl ?_)
  refine wpAny_bind (wpAny_of_eq (show Builtin.Re.reTextOf (.str x tx) = pure (x.cps, 0) from rfl) ?_)
  show wpAny _ _ (Builtin.Re.reNoCollectionInside (.str x tx) 0 >>= fun _ => Builtin.Re.reRawItems (.ref ca) >>= fun it => pure ({ pattern := .ref pa, string := .str x tx, code := it.map (·.toNat), text := x.cps, kind := 0, groups := 0, pos := min (Int.toNat 0) x.cps.size, lim := min (2 ^ 63 - 1 : Int).toNat x.cps.size } : Builtin.Re.ReTarget)) _ _ s
  refine wpAny_bind (wpAny_of_eq (show Builtin.Re.reNoCollectionInside (.str x tx) 0 = pure () from rfl) ?_)
  refine wpAny_bind ?_
  unfold Builtin.Re.reRawItems
  refine wpAny_bind (wpAny_seqItems hc hd (wpAny_pure (wpAny_pure ?_)))
  have e1 : min (Int.toNat 0) x.cps.size = 0 := Nat.zero_min _
  have e2 : min (2 ^ 63 - 1 : Int).toNat x.cps.size = x.cps.size := by
    refine Nat.min_eq_right ?_
    have : x.cps.size ≤ 1000 := hsz
    have h63 : (2 ^ 63 - 1 : Int).toNat = 9223372036854775807 := by decide
    rw [h63]; omega
  show wpAny _ _ (Builtin.Re.reRunToEnd (Sre.forSearch (rawCode items) x.cps 0 (min (Int.toNat 0) x.cps.size) (min (2 ^ 63 - 1 : Int).toNat x.cps.size) false) >>= _) _ _ s
  rw [e1, e2]
  refine wpAny_bind (wp_runToEnd _ h1 h2 h3 ?_)
  exact wpAny_pure ⟨_, rfl, hq⟩
end
def okC (c : Nat) : Bool := decide (32 ≤ c) && decide (c < 127)
def codeN : Array Nat := #[14, 10, 4, 1, 1, 22, 0, 31, 16, 127, 0, 13, 7, 22, 0, 31, 16, 127, 0, 1]
def codeV : Array Nat := #[14, 14, 4, 1, 1, 9, 4294966783, 0, 0, 2147483648, 0, 0, 0, 0, 0, 13, 11, 9, 4294966783, 0, 0, 2147483648, 0, 0, 0, 0, 0, 1]
theorem setN {c : Nat} (hc : okC c = true) (seen : Sre.Seen) : ∃ seen', Sre.inSet codeN c codeN.size 5 true seen = .ok (false, seen') := by
  unfold okC at hc
  simp only [Bool.and_eq_true, decide_eq_true_eq] at hc
  have h1 : (decide (0 ≤ c) && decide (c ≤ 31)) = false := by simp; omega
  have h2 : (c == 127) = false := by simp; omega
  refine ⟨((seen.add 22).add 16).add 0, ?_⟩
  show (if (decide (0 ≤ c) && decide (c ≤ 31)) = true then _ else (if (c == 127) = true then _ else Except.ok (!true, _))) = _
  rw [h1, h2]
  rfl
theorem setV {c : Nat} (hc : okC c = true) (seen : Sre.Seen) : ∃ seen', Sre.inSet codeV c codeV.size 5 true seen = .ok (false, seen') := by
  unfold okC at hc
  simp only [Bool.and_eq_true, decide_eq_true_eq] at hc
  have h1 : ∀ c < 127, 32 ≤ c → (decide (c < 256) && (codeV.getD (5 + (1 + c / 32)) 0).testBit (c % 32)) = false := by decide +kernel
  refine ⟨(seen.add 9).add 0, ?_⟩
  show (if (decide (c < 256) && (codeV.getD (5 + (1 + c / 32)) 0).testBit (c % 32)) = true then _ else Except.ok (!true, _)) = _
  rw [h1 c hc.2 hc.1]
  rfl
theorem hfs {code : Array Nat} (h1 : code.getD 0 0 = 14) (h2 : code.getD 2 0 = 4) : ∀ m : Sre.M, m.code = code → m.hasFirstSet = true := fun m e => by
  unfold Sre.M.hasFirstSet
  rw [e, h1, h2]; rfl
theorem nameOk {w : World} {A : Around} {E : Value → Shared → Prop} {h : Heap} {g : Array GenState} {d : Drawn} {t : Nat} {os : OsState} {Q : Value → Shared → Prop} (T : Tp w h) {x : Str} {tx : Tok} (hx : x.cps.toList.all okC = true) (hsz : x.length ≤ 1000) (hq : Q .none (sh h g d t os)) :
    wpAny (Md w) A (call (.builtin "re.Pattern.search") [.ref 69, .str x tx]) Q E (sh h g d t os) := by
  have hall : ∀ c ∈ x.cps.toList, okC c = true := fun c hc => List.all_eq_true.mp hx c hc
  have h1 : ∃ v0 v1 v3 v4 o items n, h.get? 69 = some { cls := .type "re.Pattern", data := .fields #[v0, v1, .int 0 0, v3, v4, .ref 68, .int 0 0] } ∧ h.get? 68 = some o ∧ o.data = .seq items n ∧ rawCode items = codeN := by
    refine ⟨_, _, _, _, _, _, _, T.inK 69 _ rfl, T.inK 68 _ rfl, rfl, ?_⟩
    decide +kernel
  obtain ⟨v0, v1, v3, v4, o, items, n, hp, hc, hd, he⟩ := h1
  exact searchNone hp hc hd (by rw [he]; exact hfs rfl rfl) (by rw [he]; exact fun c hc seen => setN (hall c hc) seen) hsz hq
theorem valOk {w : World} {A : Around} {E : Value → Shared → Prop} {h : Heap} {g : Array GenState} {d : Drawn} {t : Nat} {os : OsState} {Q : Value → Shared → Prop} (T : Tp w h) {x : Str} {tx : Tok} (hx : x.cps.toList.all okC = true) (hsz : x.length ≤ 1000) (hq : Q .none (sh h g d t os)) :
    wpAny (Md w) A (call (.builtin "re.Pattern.search") [.ref 74, .str x tx]) Q E (sh h g d t os) := by
  have hall : ∀ c ∈ x.cps.toList, okC c = true := fun c hc => List.all_eq_true.mp hx c hc
  have h1 : ∃ v0 v1 v3 v4 o items n, h.get? 74 = some { cls := .type "re.Pattern", data := .fields #[v0, v1, .int 0 0, v3, v4, .ref 73, .int 0 0] } ∧ h.get? 73 = some o ∧ o.data = .seq items n ∧ rawCode items = codeV := by
    refine ⟨_, _, _, _, _, _, _, T.inK 74 _ rfl, T.inK 73 _ rfl, rfl, ?_⟩
    decide +kernel
  obtain ⟨v0, v1, v3, v4, o, items, n, hp, hc, hd, he⟩ := h1
  exact searchNone hp hc hd (by rw [he]; exact hfs rfl rfl) (by rw [he]; exact fun c hc seen => setV (hall c hc) seen) hsz hq
end Mine
end
section
open PySem PySem.W PySem.W.X PyProof.Rows PySem.Calls
set_option maxRecDepth 100000
set_option maxHeartbeats 2000000
namespace Mine

theorem enterK {w : World} {k : Nat} {A : Around} {E : Value → Shared → Prop} {Q : Value → Shared → Prop} {h : Heap} {g : Array GenState} {d : Drawn} {t : Nat} {os : OsState} (o : Ok (k + 1) A) (T : Tp w h)
    {f : Addr} {args vals : List Value} {kw : List (Str × Value)} {name qual : Str} {params : Arguments} {body : List Stmt} {scope : Scope} {dV kV doc pm cdv ct oc : Value} {an od : Option Addr} {osl : Array (Option Value)}
    (ho : (hd.heap_39 w.params).lookup f = some ⟨oc, od, .func (fnOf name qual params body scope dV kV doc pm an cdv ct), osl⟩) (hcd : codeIn (hd.heap_39 w.params) cdv qual = true)
    (ks1 ks2 gs : List Str) (hsc : (scopeOk scope (ks1 ++ ks2) gs && noCells scope && !scope.isGenerator) = true)
    (hb : BindsTo (sh h g d t os) (fnOf name qual params body scope dV kV doc pm an cdv ct) ⟨args, kw⟩ (ks1.zip vals)) (hl : ks1.length = vals.length)
    (hq : ∀ L h₁ t' env, EnvOk env L (ks1 ++ ks2) gs → Fm w h L (ks1 ++ ks2) (vals.map some ++ List.replicate ks2.length none) [] h₁ → Ok k (A.deeper env) →
      wpAny (Md w) (A.deeper env) (execs body env) (fun fl s' => Q (retOf fl) s') (fun _ _ => False) (sh h₁ g d t' os)) :
    wpAny (Md w) A (call (.ref f) args kw) Q E (sh h g d t os) := by
  simp only [Bool.and_eq_true, Bool.not_eq_true'] at hsc
  obtain ⟨⟨hso, hnc⟩, hgn⟩ := hsc
  refine wpAny_call (codeAny_call_def (s := sh h g d t os) (fd := fnOf name qual params body scope dV kV doc pm an cdv ct) (body := body) (binds := ks1.zip vals) o.room (T.inK _ _ ho) rfl T.nl (codeRec_of T.inK hcd) rfl hb
    (fun x hx => by have := List.all_eq_true.mp hnc x hx; simpa using this) (fun x hx => ?_) (fun h₁ hns hk => ?_) (scopeOk.co hso) hgn (scopeOk.kind hso))
  · exact (scopeOk.local hso (List.mem_append_left _ (List.of_mem_zip hx).1)).1
  · rw [mapOf_init hl (scopeOk.nd hso)] at hns
    refine wpAny_mono (hq h.objs.size h₁ _ (callEnv (fnOf name qual params body scope dV kV doc pm an cdv ct) h.objs.size f) ⟨rfl, hso, rfl, rfl⟩ ⟨T, hk, hns, fresh_size h, fun i r hi => by simp at hi, fun i j r r' _ hi => by simp at hi⟩ o.deeper) (fun fl s' x => ?_) fun _ _ x => x.elim
    cases fl <;> exact x
section
variable {w : World} {A : Around} {E : Value → Shared → Prop} {h₀ h h' : Heap} {env : Env} {L : Addr} {ks gs : List Str} {vs : List (Option Value)} {σ : List Reg} {g : Array GenState} {d : Drawn} {t : Nat} {os : OsState} {Q : Value → Shared → Prop}
theorem isTypes {a b : String} (hq : Q (.bool (Value.type a == Value.type b)) (sh h g d t os)) : wpAny (Md w) A (compareOp .Is (.type a) (.type b)) Q E (sh h g d t os) := wpAny_is_plain rfl hq
theorem isntTypes {a b : String} (hq : Q (.bool (!(Value.type a == Value.type b))) (sh h g d t os)) : wpAny (Md w) A (compareOp .IsNot (.type a) (.type b)) Q E (sh h g d t os) := wpAny_isNot_plain rfl hq
theorem truthyNone {Q : Bool → Shared → Prop} (hq : Q false (sh h g d t os)) : wpAny (Md w) A (truthy .none) Q E (sh h g d t os) := fun _ _ _ => hq
end
/-- text that the headers take -/
def okS (x : Str) : Bool := x.cps.toList.all okC && decide (x.length ≤ 100)
theorem okS.chars {x : Str} (h : okS x = true) : x.cps.toList.all okC = true := by unfold okS at h; simp only [Bool.and_eq_true] at h; exact h.1
theorem okS.len {x : Str} (h : okS x = true) : x.length ≤ 100 := by unfold okS at h; simp only [Bool.and_eq_true, decide_eq_true_eq] at h; exact h.2
theorem convCall {w : World} {k : Nat} {A : Around} {E : Value → Shared → Prop} {Q : Value → Shared → Prop} {h : Heap} {g : Array GenState} {d : Drawn} {t : Nat} {os : OsState} (o : Ok (k + 3) A) (T : Tp w h) {self : Value} {x : Str} {tx : Tok} {b : Bool}
    (hx : okS x = true) (hq : ∀ h' t', Keep h h' → Q (.str x tx) (sh h' g d t' os)) :
    wpAny (Md w) A (call (.ref 104) [self, .str x tx] [(Str.ofString "name", .bool b)]) Q E (sh h g d t os) := by
  refine' enterK (k := k + 2) (vals := [self, .str x tx, .bool b]) o T ?ho ?hcd [Str.ofString "self", Str.ofString "value", Str.ofString "name"] [Str.ofString "regex"] [Str.ofString "type", Str.ofString "str", Str.ofString "_name_disallowed_re", Str.ofString "_value_disallowed_re"] ?hsc ?hb ?hl ?_
  case ho => exact rfl
  case hcd => exact rfl
  case hsc => decide +kernel
  case hb => exact BindsTo.of_eq rfl
  case hl => exact rfl
  intro L h₁ t₁ env V S o₁
  refine wpAny_execs_cons (wpAny_If (wpAny_isTrue_Compare1 (Call_Name1 (bi (v := .type "type") V S.tp (by decide) (by rfl) (by rfl) (by decide) (PySem.callWith_type1 (nm 1 V S rfl rfl (call_type_of (typeIs_str _ _ _) (by decide) (bi (v := .type "str") V S.tp (by decide) (by rfl) (by rfl) (by decide) (isTypes (wpAny_truthy_bool ?_))))))))))
  rw [if_pos (by decide)]
  refine wpAny_execs_cons (wpAny_Assign_Name (wpAny_IfExp (wpAny_isTrue_value (nm 2 V S rfl rfl (wpAny_truthy_bool ?_)))))
  cases b with
  | true =>
    rw [if_pos rfl]
    refine gl V S.tp (by decide) rfl (st 3 V S rfl rfl fun h₂ t₂ S => ?_)
    refine wpAny_execs_cons (wpAny_If (wpAny_isTrue_value (Call_method1 rfl rfl rfl (nm 3 V S rfl rfl ⟨"re.Pattern", "re.Pattern.search", pa_re, slot_re, type_re, ⟨_, S.tp.inK 69 _ rfl, rfl⟩, fun a e => (by cases e; exact ⟨_, S.tp.inK 69 _ rfl, rfl⟩), ?_⟩)) ))
    refine Calls.callWith_builtin rfl (Calls.evalArgs_plain (Calls.spliced_cons (nm 1 V S rfl rfl (Calls.spliced_nil ?_))))
    refine nameOk S.tp (okS.chars hx) (by have := okS.len hx; omega) (truthyNone ?_)
    rw [if_neg Bool.false_ne_true]
    refine wpAny_execs_nil ?_
    exact wpAny_execs_cons (wpAny_Return_some (nm 1 V S rfl rfl (hq _ _ S.keep)))
  | false =>
    rw [if_neg Bool.false_ne_true]
    refine gl V S.tp (by decide) rfl (st 3 V S rfl rfl fun h₂ t₂ S => ?_)
    refine wpAny_execs_cons (wpAny_If (wpAny_isTrue_value (Call_method1 rfl rfl rfl (nm 3 V S rfl rfl ⟨"re.Pattern", "re.Pattern.search", pa_re, slot_re, type_re, ⟨_, S.tp.inK 74 _ rfl, rfl⟩, fun a e => (by cases e; exact ⟨_, S.tp.inK 74 _ rfl, rfl⟩), ?_⟩)) ))
    refine Calls.callWith_builtin rfl (Calls.evalArgs_plain (Calls.spliced_cons (nm 1 V S rfl rfl (Calls.spliced_nil ?_))))
    refine valOk S.tp (okS.chars hx) (by have := okS.len hx; omega) (truthyNone ?_)
    rw [if_neg Bool.false_ne_true]
    refine wpAny_execs_nil ?_
    exact wpAny_execs_cons (wpAny_Return_some (nm 1 V S rfl rfl (hq _ _ S.keep)))
end Mine
end
section
open PySem PySem.W PySem.W.X PyProof.Rows PySem.Calls
set_option maxRecDepth 100000
set_option maxHeartbeats 2000000
namespace Mine

theorem ns_of {K : Frag} {h : Heap} {a : Addr} {mg : Str → Option Value} {n : Str} {v : Option Value} (X : K.In h) (G : h.Ns a mg) (e : nsIn K a n = some v) : mg n = v := by
  obtain ⟨o, es, ep, ho, hd, _, hf⟩ := G
  unfold nsIn at e
  split at e
  · rename_i c d es' n' sl q
    have := X _ _ q
    rw [ho] at this
    cases this
    cases hd
    rw [← hf]
    unfold nsFind findBy
    rw [← Array.find?_toList]
    split at e
    · rename_i en he
      cases e
      rw [he]
      rfl
    · rename_i he
      rw [he]
      split at e
      · cases e
      · cases e; rfl
  · cases e
def strKey (e : DictEntry) : Bool := match e.key with | .str _ _ => true | _ => false
theorem ns202 {w : World} {h : Heap} (T : Tp w h) : ∃ mN, h.Ns 202 mN := by
  have : ∃ cl dd es n sl, (hd.heap_39 w.params).lookup 202 = some ⟨cl, dd, .dict es n, sl⟩ ∧ es.toList.all strKey = true := ⟨_, _, _, _, _, rfl, rfl⟩
  obtain ⟨cl, dd, es, n, sl, e, hk⟩ := this
  refine ⟨nsFind es, _, es, n, T.inK _ _ e, rfl, fun x hx => ?_, fun _ => rfl⟩
  have := List.all_eq_true.mp hk x (by simpa using hx)
  unfold strKey at this
  split at this
  · exact ⟨_, _, by assumption⟩
  · cases this
theorem cls_ex {w : World} {h : Heap} (T : Tp w h) : ∃ mN, ClsAt h 203 202 mN ∧ ∀ n v, nsIn (hd.heap_39 w.params) 202 n = some v → mN n = v := by
  obtain ⟨mN, hn⟩ := ns202 T
  refine ⟨mN, ⟨⟨Str.ofString "Headers", Str.ofString "Headers", [.type "object"], _, _, _, _, _, _, _, _, _, T.inK 203 _ rfl⟩, hn⟩, fun n v e => ns_of T.inK hn e⟩
/-- an object of Headers, its dict, its list -/
def instObj (dx : Addr) : Obj := { cls := .ref 203, dict := some dx, data := .plain }
def rI (x dx hl : Addr) : Reg where
  fp := [x, dx]
  P h := (∃ o, h.get? x = some o ∧ o.cls = .ref 203 ∧ (∀ c, o.data ≠ .cls c) ∧ o.dict = some dx) ∧ dx ≠ x ∧ h.Ns1 dx (fun y => if y = Str.ofString "_headers" then some (.ref hl) else none)
  fr := fun h h' p k => ⟨let ⟨o, e, r⟩ := p.1; ⟨o, k x (List.mem_cons_self ..) o e, r⟩, p.2.1, p.2.2.at fun o e => k dx (by simp) o e⟩
  al := fun h p b hb => by
    rcases List.mem_cons.mp hb with rfl | hb
    · obtain ⟨o, e, _⟩ := p.1; exact ⟨o, e⟩
    · rw [List.mem_singleton.mp hb]
      obtain ⟨o, _, _, e, _⟩ := p.2.2; exact ⟨o, e⟩
theorem rI.inst {x dx hl : Addr} {h : Heap} (p : (rI x dx hl).P h) : h.Inst x 203 (fun y => if y = Str.ofString "_headers" then some (.ref hl) else none) := by
  obtain ⟨⟨o, e, hc, hd, hdx⟩, hne, hn⟩ := p
  exact ⟨o, e, hc, hd, .inr ⟨dx, hdx, hne, hn⟩⟩
section
variable {w : World} {A : Around} {E : Value → Shared → Prop} {h₀ h h' : Heap} {env : Env} {L : Addr} {ks gs : List Str} {vs : List (Option Value)} {σ : List Reg} {g : Array GenState} {d : Drawn} {t : Nat} {os : OsState} {Q : Value → Shared → Prop}
theorem methI {x dx hl f : Addr} {name : Str} {of : Obj} {y : Option Value} {pl : Sem Bool} {Q : Value × List Value → Shared → Prop} (T : Tp w h) (I : (rI x dx hl).P h) (hf : nsIn (hd.heap_39 w.params) 202 name = some (some (.ref f))) (hfo : (hd.heap_39 w.params).lookup f = some of)
    (hfc : of.cls = .type "function") (hB : typeLookup (.type "object") name = pure y) (hsh : (name == Str.ofString "_headers") = false) (hq : Q (.ref f, [.ref x]) (sh h g d t os)) : wpAny (Md w) A (getMethod (.ref x) name pl) Q E (sh h g d t os) := by
  obtain ⟨mN, ⟨⟨nm, q, bs, sn, sub, col, dd, k0, k1, k2, k3, k5, hC⟩, hn⟩, hm⟩ := cls_ex T
  exact method_of hC hn (hm _ _ rfl) (hm _ _ rfl) (hm _ _ hf) (T.inK _ _ hfo) hfc hB (rI.inst I) (by
    have : ¬ name = Str.ofString "_headers" := by simpa using hsh
    exact if_neg this) hq
theorem attrH {x dx hl : Addr} {n : Str} {np pos : Pos} (T : Tp w h) (I : (rI x dx hl).P h) (ho : ∀ Q' : Value → Shared → Prop, Q' (.ref x) (sh h g d t os) → wpAny (Md w) A (eval (.Name n np) env) Q' E (sh h g d t os)) (hq : ∀ t', Q (.ref hl) (sh h g d t' os)) :
    wpAny (Md w) A (eval (.Attribute (.Name n np) (Str.ofString "_headers") pos) env) Q E (sh h g d t os) := by
  obtain ⟨mN, ⟨⟨nm, q, bs, sn, sub, col, dd, k0, k1, k2, k3, k5, hC⟩, hn⟩, hm⟩ := cls_ex T
  refine Attribute_name (ho _ ?_)
  exact load_attr hC hn (hm _ _ rfl) (hm _ _ rfl) (by rw [typeLookup_type, builtinLookup_eq_fast]; kernel_rfl) (rI.inst I) (if_pos rfl) rfl (hq _)
/-- a call of a method, with words -/
theorem MethodK {o : Expr} {name : Str} {apos pos : Pos} {args : List Expr} {kws : List Keyword} {pl : Sem Bool} {M : Model} {s : Shared}
    (h : wpAny M A (eval o env) (fun ov s₁ => wpAny M A (getMethod ov name pl) (fun fx s₂ => wpAny M A (callWith pos fx.1 fx.2 (backTo pos (starEach args env)) (backToKw pos (keywordEach kws env))) Q E s₂) E s₁) E s)
    (he : eval (.Call (.Attribute o name apos) args kws pos) env = (do
      let ov ← eval o env
      standAt apos.atName
      let (f, first) ← holding [ov] (getMethod ov name pl)
      callWith pos f first (backTo pos (starEach args env)) (backToKw pos (keywordEach kws env))) := by rfl) :
    wpAny M A (eval (.Call (.Attribute o name apos) args kws pos) env) Q E s := by
  rw [he]
  refine wpAny_bind (wpAny_mono h (fun ov s₁ h₁ => wpAny_bind (wpAny_standAt (wpAny_bind (wpAny_holding (wpAny_mono h₁ (fun fx s₂ h₂ => ?_) fun _ _ x => x))))) fun _ _ x => x)
  exact h₂
end
end Mine
end
section
open PySem PySem.W PySem.W.X PyProof.Rows PySem.Calls
set_option maxRecDepth 100000
set_option maxHeartbeats 2000000
namespace Mine

theorem Ok.under {k : Nat} {A : Around} (o : Ok (k + 1) A) (C : Addr) (vals : List Value) : Ok k (A.under (.builtin "type.__call__" ⟨.ref C :: vals, []⟩)) := by
  refine ⟨o.hd, ?_, ?_⟩
  · have := o.dp; show A.depth + 1 + k ≤ 900; omega
  · have h : (A.under (.builtin "type.__call__" ⟨.ref C :: vals, []⟩)).units ≤ A.units + 10 := by
      show A.units + _ ≤ A.units + 10
      exact Nat.add_le_add_left (Nat.le_of_ble_eq_true rfl) _
    have := o.un
    omega
def PairsAt (h : Heap) : List Addr → List (Str × Str) → Prop
  | [], [] => True
  | T :: Ts, p :: r => (∃ tk tu, h.get? T = some (tupleObj #[.str p.1 tk, .str p.2 tu])) ∧ PairsAt h Ts r
  | _, _ => False
theorem PairsAt.same {h h' : Heap} : ∀ {Ts : List Addr} {r : List (Str × Str)}, PairsAt h Ts r → Same Ts h h' → PairsAt h' Ts r
  | [], [], _, _ => trivial
  | T :: _, _ :: _, x, k => ⟨let ⟨a, b, e⟩ := x.1; ⟨a, b, k T (List.mem_cons_self ..) _ e⟩, PairsAt.same x.2 fun b hb => k b (List.mem_cons_of_mem _ hb)⟩
theorem PairsAt.app {h : Heap} : ∀ {Ts Us : List Addr} {r q : List (Str × Str)}, PairsAt h Ts r → PairsAt h Us q → PairsAt h (Ts ++ Us) (r ++ q)
  | [], _, [], _, _, y => y
  | _ :: _, _, _ :: _, _, x, y => ⟨x.1, PairsAt.app x.2 y⟩
theorem PairsAt.tup {h : Heap} : ∀ {Ts : List Addr} {r : List (Str × Str)}, PairsAt h Ts r → ∀ b ∈ Ts, ∃ xs, h.get? b = some (tupleObj xs)
  | [], [], _, b, hb => nomatch hb
  | T :: _, _ :: _, x, b, hb => by
    rcases List.mem_cons.mp hb with rfl | hb
    · exact ⟨_, x.1.choose_spec.choose_spec⟩
    · exact PairsAt.tup x.2 b hb
theorem PairsAt.len {h : Heap} : ∀ {Ts : List Addr} {r : List (Str × Str)}, PairsAt h Ts r → Ts.length = r.length
  | [], [], _ => rfl
  | _ :: _, _ :: _, x => congrArg (· + 1) (PairsAt.len x.2)
theorem PairsAt.get {h : Heap} : ∀ {Ts : List Addr} {r : List (Str × Str)}, PairsAt h Ts r → ∀ (i : Nat) (v : Value), (Ts.map Value.ref)[i]? = some v → ∃ T p tk tu, v = .ref T ∧ T ∈ Ts ∧ r[i]? = some p ∧ h.get? T = some (tupleObj #[.str p.1 tk, .str p.2 tu])
  | [], [], _, i, v, e => by simp at e
  | T :: _, p :: _, x, 0, v, e => by
    obtain ⟨tk, tu, q⟩ := x.1
    simp at e
    exact ⟨T, p, tk, tu, e.symm, List.mem_cons_self .., rfl, q⟩
  | T :: _, p :: _, x, i + 1, v, e => by
    obtain ⟨T', p', tk, tu, h1, h2, h3, h4⟩ := PairsAt.get x.2 i v (by simpa using e)
    exact ⟨T', p', tk, tu, h1, List.mem_cons_of_mem _ h2, by simpa using h3, h4⟩
/-- the tuples of a table -/
def rTs (Ts : List Addr) (r : List (Str × Str)) : Reg where
  fp := Ts
  P h := PairsAt h Ts r
  fr := fun h h' p k => p.same k
  al := fun h p b hb => let ⟨_, e⟩ := p.tup b hb; ⟨_, e⟩
abbrev ksI : List Str := [Str.ofString "self", Str.ofString "headers", Str.ofString "k", Str.ofString "v"]
theorem Fm.rebase {w : World} {hB h h₁ : Heap} {L : Addr} {ks : List Str} {vs : List (Option Value)} (S : Fm w h L ks vs [] h₁) (T : Tp w hB) (kB : Keep hB h) (σ : List Reg) (hσ : ∀ (i : Nat) (r : Reg), σ[i]? = some r → r.P h ∧ ∀ b ∈ r.fp, hB.get? b = none)
    (hdj : ∀ (i j : Nat) (r r' : Reg), i ≠ j → σ[i]? = some r → σ[j]? = some r' → ∀ b ∈ r.fp, b ∉ r'.fp) : Fm w hB L ks vs σ h₁ where
  top := T
  keep := kB.trans S.keep
  ns := S.ns
  fresh := by
    cases q : hB.get? L with
    | none => rfl
    | some o => have := kB _ _ q; rw [S.fresh] at this; cases this
  led := fun i r hi => by
    obtain ⟨hP, hf⟩ := hσ i r hi
    refine ⟨r.fr _ _ hP (S.keep.same _), fun b hb => ⟨fun e => ?_, hf b hb⟩⟩
    obtain ⟨o, q⟩ := r.al _ hP b hb
    rw [e, S.fresh] at q; cases q
  dj := hdj
def rI0 (x dx : Addr) : Reg where
  fp := [x, dx]
  P h := (∃ o, h.get? x = some o ∧ o.cls = .ref 203 ∧ (∀ c, o.data ≠ .cls c) ∧ o.dict = some dx) ∧ dx ≠ x ∧ h.Ns1 dx (fun _ => none)
  fr := fun h h' p k => ⟨let ⟨o, e, r⟩ := p.1; ⟨o, k x (List.mem_cons_self ..) o e, r⟩, p.2.1, p.2.2.at fun o e => k dx (by simp) o e⟩
  al := fun h p b hb => by
    rcases List.mem_cons.mp hb with rfl | hb
    · obtain ⟨o, e, _⟩ := p.1; exact ⟨o, e⟩
    · rw [List.mem_singleton.mp hb]
      obtain ⟨o, _, _, e, _⟩ := p.2.2; exact ⟨o, e⟩
theorem setH {w : World} {A : Around} {E : Value → Shared → Prop} {h : Heap} {g : Array GenState} {d : Drawn} {t : Nat} {os : OsState} {Q : Unit → Shared → Prop} (T : Tp w h) {x dx hl : Addr} (I : (rI0 x dx).P h) (hx : x ≠ 203)
    (hq : ∀ h' t', (∀ b o, b ∉ [x, dx] → h.get? b = some o → h'.get? b = some o) → (rI x dx hl).P h' → Q () (sh h' g d t' os)) : wpAny (Md w) A (setAttr (.ref x) (Str.ofString "_headers") (.ref hl)) Q E (sh h g d t os) := by
  obtain ⟨mN, ⟨⟨nm, q, bs, sn, sub, col, dd, k0, k1, k2, k3, k5, hC⟩, hn⟩, hm⟩ := cls_ex T
  obtain ⟨⟨o, e, hc, hd, hdx⟩, hne, hn1⟩ := I
  refine store_attr (ns := []) PySem.F.store_object hC hn (hm _ _ rfl) (hm _ _ rfl) (by rw [typeLookup_type, builtinLookup_eq_fast]; kernel_rfl) hx ⟨o, e, hc, hd, .inr ⟨dx, hdx, hne, hn1⟩⟩ (fun h' tk' I' hk hsame => ?_) PySem.Within.nil (Nat.zero_le _)
  refine hq h' tk' (fun b o' hb e' => hk b o' (fun q => hb (by simp [q])) (fun o₀ dx' e₀ ed => ?_) e') ?_
  · rw [e] at e₀
    obtain rfl := Option.some.inj e₀
    rw [hdx] at ed
    obtain rfl := Option.some.inj ed
    exact fun q => hb (by simp [q])
  · obtain ⟨o₁, e₁, c₁, d₁, _, k₁⟩ := hsame o e
    refine ⟨⟨o₁, e₁, c₁.trans hc, (fun c => d₁ ▸ hd c), k₁ dx hdx⟩, hne, ?_⟩
    obtain ⟨o', e', _, _, hd'⟩ := I'
    obtain rfl := Option.some.inj (e₁.symm.trans e')
    rcases hd' with ⟨hn0, _⟩ | ⟨d', hd', _, hns'⟩
    · rw [k₁ dx hdx] at hn0; cases hn0
    · obtain rfl := Option.some.inj ((k₁ dx hdx).symm.trans hd')
      exact hns'
theorem convM {w : World} {k : Nat} {A : Around} {E : Value → Shared → Prop} {h : Heap} {env : Env} {g : Array GenState} {d : Drawn} {t : Nat} {os : OsState} {Q : Value → Shared → Prop} (o₁ : Ok (k + 3) A) (T : Tp w h) {x dx hl : Addr} (I : (rI x dx hl).P h)
    {o e : Expr} {apos pos p p' : Pos} {kk : Nat} {b : Bool} {y : Str} {pl : Sem Bool} (hy : okS y = true)
    (ho : ∀ Q' : Value → Shared → Prop, Q' (.ref x) (sh h g d t os) → wpAny (Md w) A (eval o env) Q' E (sh h g d t os))
    (hx : wpAny (Md w) A (eval e env) (fun v s₂ => ∃ ty t₂, v = .str y ty ∧ s₂ = sh h g d t₂ os) E (sh h g d t os))
    (hq : ∀ h' ty t', Keep h h' → Q (.str y ty) (sh h' g d t' os))
    (he : eval (.Call (.Attribute o (Str.ofString "_convert_string_type") apos) [e] [⟨some (Str.ofString "name"), .Constant (.bool b) kk p, p'⟩] pos) env = (do
      let ov ← eval o env
      standAt apos.atName
      let (f, first) ← holding [ov] (getMethod ov (Str.ofString "_convert_string_type") pl)
      callWith pos f first (backTo pos (starEach [e] env)) (backToKw pos (keywordEach [⟨some (Str.ofString "name"), .Constant (.bool b) kk p, p'⟩] env))))
    (hs : starEach [e] env = [(false, eval e env)]) :
    wpAny (Md w) A (eval (.Call (.Attribute o (Str.ofString "_convert_string_type") apos) [e] [⟨some (Str.ofString "name"), .Constant (.bool b) kk p, p'⟩] pos) env) Q E (sh h g d t os) := by
  refine MethodK (pl := pl) (ho _ (methI (y := none) T I (f := 104) rfl rfl rfl (by rw [typeLookup_type, builtinLookup_eq_fast]; kernel_rfl) (by decide) ?_)) he
  rw [hs]
  have hobj : ∃ of fd, (hd.heap_39 w.params).lookup 104 = some of ∧ of.data = .func fd := ⟨_, _, rfl, rfl⟩
  obtain ⟨of, fd, hof, hfd⟩ := hobj
  refine callWith_function_kw (o := of) (fd := fd) (evalArgs_kw rfl (Calls.spliced_cons (wpAny_mono hx (fun v s₂ hv => Calls.spliced_nil ?_) fun _ _ x => x)))
  obtain ⟨ty, t₂, rfl, rfl⟩ := hv
  show wpAny _ _ (evalAll [eval (.Constant (.bool b) kk p) env >>= fun v => standAt pos >>= fun _ => pure v]) _ _ _
  refine evalAll_cons (wpAny_bind (cb (wpAny_bind (wpAny_standAt (wpAny_pure (evalAll_nil ⟨⟨T.inK 104 _ hof, hfd⟩, ?_⟩))))))
  exact convCall o₁ T hy fun h' t' kp => hq h' ty t' kp
theorem initCall {w : World} {k : Nat} {A : Around} {E : Value → Shared → Prop} {Q : Value → Shared → Prop} {hB h : Heap} {g : Array GenState} {d : Drawn} {t : Nat} {os : OsState} (o : Ok (k + 8) A) (T : Tp w hB) (kB : Keep hB h) {x dx hl : Addr} {Ts : List Addr} {ps : List (Str × Str)}
    (hI : (rI0 x dx).P h) (hxB : hB.get? x = none) (hdB : hB.get? dx = none)
    (hl' : hB.PlainList hl (Ts.map Value.ref).toArray) (hps : PairsAt hB Ts ps) (hok : ps.all (fun p => okS p.1 && okS p.2) = true) (hlen : ps.length ≤ 100)
    (hq : ∀ h' t', Keep hB h' → (rI x dx hl).P h' → Q .none (sh h' g d t' os)) :
    wpAny (Md w) A (call (.ref 97) [.ref x, .ref hl]) Q E (sh h g d t os) := by
  have Th : Tp w h := T.keep kB
  refine' enterK (k := k + 7) (vals := [.ref x, .ref hl]) o Th ?ho ?hcd [Str.ofString "self", Str.ofString "headers"] [Str.ofString "k", Str.ofString "v"] [Str.ofString "type", Str.ofString "list"] ?hsc ?hb ?hl ?_
  case ho => exact rfl
  case hcd => exact rfl
  case hsc => decide +kernel
  case hb => exact .of_defaults rfl (Th.inK _ _ rfl) rfl rfl rfl
  case hl => exact rfl
  intro L h₁ t₁ env V S o₁
  have S := S.rebase T kB [rI0 x dx] (fun i r hi => by
    cases i with
    | zero =>
      cases hi
      refine ⟨hI, fun b hb => ?_⟩
      rcases List.mem_cons.mp hb with rfl | hb
      · exact hxB
      · rw [List.mem_singleton.mp hb]; exact hdB
    | succ i => simp at hi) (fun i j r r' hij hi hj => by
    cases i with
    | zero =>
      cases j with
      | zero => exact absurd rfl hij
      | succ j => simp at hj
    | succ i => simp at hi)
  refine wpAny_execs_cons (wpAny_Assign_Name (wpAny_IfExp (wpAny_isTrue_Compare1 (nm 1 V S rfl rfl (cn (wpAny_isNot_other rfl (by simp) (wpAny_truthy_bool ?_)))))))
  rw [if_pos rfl]
  refine nm 1 V S rfl rfl (st 1 V S rfl rfl fun h₂ t₂ S => ?_)
  have hl2 : h₂.PlainList hl (Ts.map Value.ref).toArray := hl'.at fun o e => S.keep _ _ e
  refine wpAny_execs_cons (wpAny_If (wpAny_isTrue_Compare1 (Call_Name1 (bi (v := .type "type") V S.tp (by decide) (by rfl) (by rfl) (by decide) (PySem.callWith_type1 (nm 1 V S rfl rfl (call_type_of hl2.isList.typeIs (by decide) (bi (v := .type "list") V S.tp (by decide) (by rfl) (by rfl) (by decide) (isntTypes (wpAny_truthy_bool ?_))))))))))
  rw [if_neg (by decide)]
  refine wpAny_execs_nil ?_
  have hx203 : x ≠ 203 := fun q => by have := T.inK 203 _ rfl; rw [← q, hxB] at this; cases this
  refine wpAny_execs_cons (plainObj_wpAny_Assign_Attribute (nm 1 V S rfl rfl (nm 0 V S rfl rfl (setH S.tp (S.at 0 rfl : (rI0 x dx).P _) hx203 fun h₃ t₃ hk₃ hI₃ => ?_))) rfl)
  have S := S.put 0 rfl (rI x dx hl) hk₃ hI₃ (fun b hb => .inl hb)
  refine wpAny_execs_cons (wpAny_If (wpAny_isTrue_value (cb (wpAny_truthy_bool ?_))))
  rw [if_pos rfl]
  have hlB : ∀ {h'}, Keep hB h' → h'.PlainList hl (Ts.map Value.ref).toArray := fun k => hl'.at fun o e => k _ _ e
  refine wpAny_execs_cons (wpAny_For (nm 1 V S rfl rfl ?_))
  refine forList (items := (Ts.map Value.ref).toArray) o₁.hd (fun i vs σ g' => g' = g ∧ ∃ (kv vv : Option Value), vs = [some (.ref x), some (.ref hl), kv, vv] ∧ σ = [rI x dx hl])
    (fun i vs σ g h' σ' _ S' => (hlB S'.keep).isList) ?_ ?_ S ⟨rfl, _, _, rfl, rfl⟩ (hlB S.keep).isList
  · rintro I i v vs σ g' h' t' hv ⟨rfl, kv, vv, rfl, rfl⟩ S
    obtain ⟨T', p, tk, tu, rfl, hTm, hpi, hT'⟩ := hps.get i v (by simpa using hv)
    have hpok := List.all_eq_true.mp hok p (List.mem_of_getElem? hpi)
    simp only [Bool.and_eq_true] at hpok
    refine wpAny_letOwnedTupleGo_listiter (S.at 0 rfl) ?_
    refine un2 2 3 V S o₁.hd ⟨_, S.keep _ _ hT', rfl, 0, rfl⟩ rfl rfl rfl rfl fun h₄ t₄ S hx₄ => ?_
    refine wpAny_execs_cons (wpAny_Expr (convM (k := k + 4) o₁ S.tp (S.at 1 rfl) hpok.1 (fun Q' q => nm 0 V S rfl rfl q) (nm 2 V S rfl rfl ⟨_, _, rfl, rfl⟩) (fun h₅ ty t₅ k₅ => ?_) rfl rfl) V.inter)
    have S := S.kept k₅
    refine wpAny_execs_cons (wpAny_Expr (convM (k := k + 4) o₁ S.tp (S.at 1 rfl) hpok.2 (fun Q' q => nm 0 V S rfl rfl q) (nm 3 V S rfl rfl ⟨_, _, rfl, rfl⟩) (fun h₆ ty t₆ k₆ => ?_) rfl rfl) V.inter)
    have S := S.kept k₆
    exact wpAny_execs_nil ⟨h₆, g', t₆, _, _, rfl, S, rfl, _, _, rfl, rfl⟩
  · rintro h' g' t' vs σ ⟨rfl, kv, vv, rfl, rfl⟩ S
    exact wpAny_execs_nil (wpAny_execs_nil (hq h' t' S.keep (S.at 0 rfl)))
theorem headersCall {w : World} {k : Nat} {A : Around} {E : Value → Shared → Prop} {Q : Value → Shared → Prop} {h : Heap} {g : Array GenState} {d : Drawn} {t : Nat} {os : OsState} (o : Ok (k + 9) A) (T : Tp w h) {hl : Addr} {Ts : List Addr} {ps : List (Str × Str)}
    (hl' : h.PlainList hl (Ts.map Value.ref).toArray) (hps : PairsAt h Ts ps) (hok : ps.all (fun p => okS p.1 && okS p.2) = true) (hlen : ps.length ≤ 100)
    (hq : ∀ x dx h' t', Keep h h' → (rI x dx hl).P h' → h.get? x = none → h.get? dx = none → Q (.ref x) (sh h' g d t' os)) :
    wpAny (Md w) A (call (.ref 203) [.ref hl]) Q E (sh h g d t os) := by
  obtain ⟨mN, ⟨⟨nm, q, bs, sn, sub, col, dd, k0, k1, k2, k3, k5, hC⟩, hn⟩, hm⟩ := cls_ex T
  refine wpAny_call_obj_init PySem.F.objNew hC hn (hm _ _ rfl) (T.inK 97 _ rfl) rfl fun h' x dx Mk => ?_
  have hI : (rI0 x dx).P h' := by
    obtain ⟨ox, hx, hcx, hncx, hdx⟩ := Mk.inst
    have hdd := Mk.dict ox hx
    rcases hdx with ⟨hn0, _⟩ | ⟨d', hd', hne, hns'⟩
    · rw [hn0] at hdd; cases hdd
    · obtain rfl := Option.some.inj (hd'.symm.trans hdd)
      exact ⟨⟨ox, hx, hcx, hncx, hdd⟩, hne, hns'⟩
  refine initCall (o.under _ _) T Mk.keeps hI Mk.newX Mk.newD hl' hps hok hlen fun h'' t'' k'' hI'' => ⟨rfl, hq x dx h'' t'' k'' hI'' Mk.newX Mk.newD⟩
end Mine
end
section
open PySem PySem.W PySem.W.X PyProof.Rows PySem.Calls
set_option maxRecDepth 100000
set_option maxHeartbeats 2000000
namespace Mine

/-- a table of headers stands: x the object, dx its dict, hl its list, Ts the tuples, ps what they hold -/
structure Tab (h : Heap) (x dx hl : Addr) (Ts : List Addr) (ps : List (Str × Str)) : Prop where
  inst : (rI x dx hl).P h
  list : h.PlainList hl (Ts.map Value.ref).toArray
  tups : PairsAt h Ts ps
theorem Tab.keep {h h' : Heap} {x dx hl : Addr} {Ts : List Addr} {ps : List (Str × Str)} (B : Tab h x dx hl Ts ps) (k : Keep h h') : Tab h' x dx hl Ts ps :=
  ⟨(rI x dx hl).fr _ _ B.inst (k.same _), B.list.at fun o e => k _ _ e, B.tups.same (k.same _)⟩
section
variable {w : World} {A : Around} {E : Value → Shared → Prop} {h₀ h h' : Heap} {env : Env} {L : Addr} {ks gs : List Str} {vs : List (Option Value)} {σ : List Reg} {g : Array GenState} {d : Drawn} {t : Nat} {os : OsState} {Q : Value → Shared → Prop}
theorem Keep.two (h : Heap) (o o' : Obj) : Keep h ((h.push o).push o') := (Keep.push h o).trans (Keep.push _ o')
theorem size_two (h : Heap) (o : Obj) : (h.push o).objs.size = h.objs.size + 1 := Heap.size_push ..
theorem subSlice {value : Expr} {lower upper : Option Expr} {p pos : Pos} {T id : String} {s : Shared}
    (hl : typeLookup (.type T) "__getitem__" = pure (some (.builtin id)))
    (h : wpAny (Md w) A (eval value env) (fun o s₁ => wpAny (Md w) A (eval (.Slice lower upper none p) env) (fun i s₂ => s₂.TypeIs o T ∧ wpAny (Md w) A (getItem o i) Q E s₂) E s₁) E s) :
    wpAny (Md w) A (eval (.Subscript value (.Slice lower upper none p) pos) env) Q E s := by
  rw [eval_Subscript]
  refine wpAny_bind (wpAny_mono h (fun o s₁ h₁ => wpAny_bind (wpAny_holding (wpAny_mono h₁ (fun i s₂ h₂ => wpAny_bind (wpAny_standAt ?_)) fun _ _ x => x)))
    fun _ _ x => x)
  have fin : wpAny (Md w) A (operate [i, o] (getItem o i)) (fun r s₃ => wpAny (Md w) A (letTemporaryGo value o r >>= fun _ => pure r) Q E s₃) E s₂ :=
    wpAny_operating (wpAny_mono h₂.2 (fun r s₃ h₃ => wpAny_bind (wpAny_letTemporaryGo (wpAny_pure h₃))) fun _ _ x => x)
  first
    | (refine wpAny_bind ?_
       rw [getitemInPython_of_ne h₂.1.not_modules]
       refine wpAny_bind (wpAny_specialOf h₂.1 hl ?_)
       first
         | exact wpAny_pure (wpAny_bind fin)
         | exact wpAny_bind (wpAny_pure (wpAny_bind fin))
         | exact wpAny_bind fin)
    | (refine wpAny_bind (wpAny_specialOf h₂.1 hl ?_)
       first
         | exact wpAny_bind (wpAny_pure (wpAny_bind fin))
         | exact wpAny_bind fin)
theorem sliceL {value : Expr} {lower upper : Option Expr} {p pos : Pos} {s : Shared}
    (h : wpAny (Md w) A (eval value env) (fun o s₁ => wpAny (Md w) A (evalPart lower env) (fun vl s₂ => wpAny (Md w) A (evalPart upper env) (fun vu s₃ =>
      ∃ l items lo hi, o = .ref l ∧ s₃.heap.IsList l items ∧ items.size ≤ sizeLine ∧ IsPart vl lo ∧ IsPart vu hi ∧
        ∀ D h' t', Keep s₃.heap h' → s₃.heap.get? D = none → h'.PlainList D (slicePick items lo hi none) → Q (.ref D) { s₃ with heap := h', toks := t' }) E s₂) E s₁) E s) :
    wpAny (Md w) A (eval (.Subscript value (.Slice lower upper none p) pos) env) Q E s := by
  refine subSlice (T := "list") list_getitem_lookup (wpAny_mono h (fun o s₁ h₁ => wpAny_Slice (wpAny_mono h₁ (fun vl s₂ h₂ => wpAny_mono h₂ (fun vu s₃ h₃ => ?_) fun _ _ e => e) fun _ _ e => e)) fun _ _ e => e)
  obtain ⟨l, items, lo, hi, rfl, hl, hsz, pl, pu, hQ⟩ := h₃
  rw [evalPart_none]
  refine wpAny_pure ⟨(hl.push _).typeIs, wpAny_getItem_list_slice (hl.push _) (Heap.IsSliceOf.new ..) pl pu .none (by simp) ?_ hsz⟩
  refine hQ _ _ _ (Keep.two _ _ _) ?_ (plain_push _ _)
  rw [Heap.size_push]
  exact get_ge (Nat.le_succ _)
/-- l[:] -/
theorem copyL {value : Expr} {p pos : Pos} {l : Addr} {items : Array Value} (hsz : items.size ≤ sizeLine)
    (hv : wpAny (Md w) A (eval value env) (fun v s₁ => ∃ t₁, v = .ref l ∧ s₁ = sh h g d t₁ os) E (sh h g d t os)) (hl : h.IsList l items)
    (hq : ∀ D h' t', Keep h h' → h.get? D = none → h'.PlainList D items → Q (.ref D) (sh h' g d t' os)) :
    wpAny (Md w) A (eval (.Subscript value (.Slice none none none p) pos) env) Q E (sh h g d t os) := by
  refine sliceL (wpAny_mono hv (fun v s₁ h₁ => ?_) fun _ _ x => x)
  obtain ⟨t₁, rfl, rfl⟩ := h₁
  refine evalPart_none_step (evalPart_none_step ⟨l, items, none, none, rfl, hl, hsz, .none, .none, ?_⟩)
  rw [slicePick_all]
  exact fun D h' t' k' hD hP => hq D h' t' k' hD hP
end
theorem itemsCall {w : World} {k : Nat} {A : Around} {E : Value → Shared → Prop} {Q : Value → Shared → Prop} {h : Heap} {g : Array GenState} {d : Drawn} {t : Nat} {os : OsState} (o : Ok (k + 4) A) (T : Tp w h) {x dx hl : Addr} {Ts : List Addr} {ps : List (Str × Str)}
    (B : Tab h x dx hl Ts ps) (hlen : ps.length ≤ 100) (hq : ∀ D h' t', Keep h h' → h.get? D = none → h'.PlainList D (Ts.map Value.ref).toArray → Q (.ref D) (sh h' g d t' os)) :
    wpAny (Md w) A (call (.ref 167) [.ref x]) Q E (sh h g d t os) := by
  refine' enter (k := k + 3) o T ?ho ?hcd [Str.ofString "self"] [] [] ?hsc ?hb ?hl ?_
  case ho => exact rfl
  case hcd => exact rfl
  case hsc => decide +kernel
  case hb => exact rfl
  case hl => exact rfl
  intro L h₁ t₁ env V S o₁
  have B₁ := B.keep S.keep
  have hT := B.tups.len
  refine wpAny_execs_cons (wpAny_Return_some (copyL (by rw [sizeLine_eq]; simp; omega) (attrH S.tp B₁.inst (fun Q' q => nm 0 V S rfl rfl q) fun t' => ⟨t', rfl, rfl⟩) B₁.list.isList (fun D h' t' k' hD hP => ?_)))
  exact hq D h' t' (S.keep.trans k') (by
    cases q : h.get? D with
    | none => rfl
    | some o => rw [S.keep _ _ q] at hD; cases hD) hP
def getC (ps : List (Str × Str)) (n : Str) : Option Str := (ps.find? fun p => decide (Txt.lower p.1 = n)).map (·.2)
theorem getCall {w : World} {k : Nat} {A : Around} {E : Value → Shared → Prop} {Q : Value → Shared → Prop} {h : Heap} {g : Array GenState} {d : Drawn} {t : Nat} {os : OsState} (o : Ok (k + 8) A) (T : Tp w h) {x dx hl : Addr} {Ts : List Addr} {ps : List (Str × Str)} {nam : Str} {tn : Tok}
    (B : Tab h x dx hl Ts ps) (hps : ∀ p ∈ ps, p.1.length ≤ 100) (hlen : ps.length ≤ 100) (hn : nam.length ≤ 100) (hok : okS (Txt.lower nam) = true)
    (hq : ∀ h' t' tk, Keep h h' → Q (match getC ps (Txt.lower nam) with | some v => .str v tk | none => .none) (sh h' g d t' os)) :
    wpAny (Md w) A (call (.ref 150) [.ref x, .str nam tn]) Q E (sh h g d t os) := by
  refine' enterK (k := k + 7) (vals := [.ref x, .str nam tn, .none]) o T ?ho ?hcd [Str.ofString "self", Str.ofString "name", Str.ofString "default"] [Str.ofString "k", Str.ofString "v"] [] ?hsc ?hb ?hl ?_
  case ho => exact rfl
  case hcd => exact rfl
  case hsc => decide +kernel
  case hb => exact .of_defaults rfl (T.inK _ _ rfl) rfl rfl rfl
  case hl => exact rfl
  intro L h₁ t₁ env V S o₁
  refine wpAny_execs_cons (wpAny_Assign_Name (convM (k := k + 4) o₁ S.tp (B.keep S.keep).inst hok (fun Q' q => nm 0 V S rfl rfl q) (Call_method0 rfl rfl (nm 1 V S rfl rfl (SBL.lower (by omega) fun _ => ⟨_, _, rfl, rfl⟩))) (fun h₂ ty t₂ k₂ => ?_) rfl rfl))
  have S := S.kept k₂
  refine st 1 V S rfl rfl fun h₃ t₃ S => ?_
  refine wpAny_execs_cons (wpAny_For (attrH S.tp (B.keep S.keep).inst (fun Q' q => nm 0 V S rfl rfl q) fun t₄ => ?_))
  refine forList (items := (Ts.map Value.ref).toArray) o₁.hd (fun i vs σ g' => g' = g ∧ getC (ps.take i) (Txt.lower nam) = none ∧ ∃ (kv vv : Option Value), vs = [some (.ref x), some (.str (Txt.lower nam) ty), some .none, kv, vv] ∧ σ = [])
    (fun i vs σ g h' σ' _ S' => (B.keep S'.keep).list.isList) ?_ ?_ S ⟨rfl, rfl, _, _, rfl, rfl⟩ (B.keep S.keep).list.isList
  · rintro I i v vs σ g' h' t' hv ⟨rfl, hnone, kv, vv, rfl, rfl⟩ S
    obtain ⟨T', p, tk, tu, rfl, hTm, hpi, hT'⟩ := B.tups.get i v (by simpa using hv)
    have hpl := hps p (List.mem_of_getElem? hpi)
    refine wpAny_letOwnedTupleGo_listiter (S.at 0 rfl) ?_
    refine un2 3 4 V S o₁.hd ⟨_, S.keep _ _ hT', rfl, 0, rfl⟩ rfl rfl rfl rfl fun h₄ t₄ S hx₄ => ?_
    refine wpAny_execs_cons (wpAny_If (wpAny_isTrue_Compare1 (Call_method0 rfl rfl (nm 3 V S rfl rfl (SBL.lower (by omega) fun _ => nm 1 V S rfl rfl (eqS (wpAny_truthy_bool ?_)))))))
    have htake : ps.take (i + 1) = ps.take i ++ [p] := by rw [List.take_add_one, hpi]; rfl
    have hfind : ∀ q, getC (ps.take i ++ q) (Txt.lower nam) = getC q (Txt.lower nam) := fun q => by
      unfold getC at hnone ⊢
      have : (ps.take i).find? (fun p => decide (Txt.lower p.1 = Txt.lower nam)) = none := by simpa using hnone
      rw [List.find?_append, this]; rfl
    by_cases hlw : Txt.lower p.1 = Txt.lower nam
    · rw [decide_eq_true hlw, if_pos rfl]
      refine wpAny_execs_cons (wpAny_Return_some (nm 4 V S rfl rfl ?_))
      have : getC ps (Txt.lower nam) = some p.2 := by
        have e : ps = ps.take i ++ p :: ps.drop (i + 1) := by
          have h1 := (List.take_append_drop i ps).symm
          rw [List.drop_eq_getElem_cons (List.getElem?_eq_some_iff.mp hpi).1] at h1
          rw [(List.getElem?_eq_some_iff.mp hpi).2] at h1
          exact h1
        rw [e, hfind]
        unfold getC
        rw [List.find?_cons, decide_eq_true hlw]; rfl
      have hq2 : ∀ t'', Q (.str p.2 tu) (sh h₄ g' d t'' os) := fun t'' => by
        have hq' := hq h₄ t'' tu S.keep
        rw [this] at hq'
        exact hq'
      exact hq2 _
    · rw [decide_eq_false hlw, if_neg Bool.false_ne_true]
      refine wpAny_execs_nil (wpAny_execs_nil ⟨h₄, g', _, _, _, rfl, S, rfl, ?_, _, _, rfl, rfl⟩)
      rw [htake, hfind]
      unfold getC
      rw [List.find?_cons, decide_eq_false hlw]; rfl
  · rintro h' g' t' vs σ ⟨rfl, hnone, kv, vv, rfl, rfl⟩ S
    refine wpAny_execs_cons (wpAny_Return_some (nm 2 V S rfl rfl ?_))
    have e : ps.take (Ts.map Value.ref).toArray.size = ps := List.take_of_length_le (by have := B.tups.len; simp; omega)
    rw [e] at hnone
    have hq' := hq h' t' 0 S.keep
    rw [hnone] at hq'
    exact hq'
end Mine
end
section
open PySem PySem.W PySem.W.X PyProof.Rows PySem.Calls
set_option maxRecDepth 100000
set_option maxHeartbeats 2000000
namespace Mine

def rC (c : Addr) (v : Option Value) : Reg where
  fp := [c]
  P h := h.IsCell c v
  fr := fun h h' p k => let ⟨o, e, r⟩ := p; ⟨o, k c (List.mem_singleton.mpr rfl) o e, r⟩
  al := fun h p b hb => by rw [List.mem_singleton.mp hb]; exact ⟨_, p.choose_spec.1⟩
theorem Fm.adopt {w : World} {h₀ h : Heap} {L : Addr} {ks : List Str} {vs : List (Option Value)} {σ : List Reg} (S : Fm w h₀ L ks vs σ h) (r : Reg) (hP : r.P h) (hf : ∀ b ∈ r.fp, b ≠ L ∧ h₀.get? b = none ∧ ∀ (i : Nat) (r' : Reg), σ[i]? = some r' → b ∉ r'.fp) : Fm w h₀ L ks vs (r :: σ) h where
  top := S.top
  keep := S.keep
  ns := S.ns
  fresh := S.fresh
  led := fun i r' hi => by
    cases i with
    | zero => cases hi; exact ⟨hP, fun b hb => ⟨(hf b hb).1, (hf b hb).2.1⟩⟩
    | succ i => exact S.led i r' hi
  dj := fun i j r₁ r₂ hij hi hj b hb hb' => by
    cases i with
    | zero =>
      cases hi
      cases j with
      | zero => exact hij rfl
      | succ j => exact (hf b hb).2.2 j r₂ hj hb'
    | succ i =>
      cases j with
      | zero => cases hj; exact (hf b hb').2.2 i r₁ hi hb
      | succ j => exact S.dj i j r₁ r₂ (fun e => hij (by rw [e])) hi hj b hb hb'
theorem enterC {w : World} {k : Nat} {A : Around} {E : Value → Shared → Prop} {Q : Value → Shared → Prop} {h : Heap} {g : Array GenState} {d : Drawn} {t : Nat} {os : OsState} (o : Ok (k + 1) A) (T : Tp w h)
    {f : Addr} {args : List Value} {binds : List (Str × Value)} {name qual : Str} {params : Arguments} {body : List Stmt} {scope : Scope} {dV kV doc pm cdv ct oc : Value} {an od : Option Addr} {osl : Array (Option Value)}
    (ho : (hd.heap_39 w.params).lookup f = some ⟨oc, od, .func (fnOf name qual params body scope dV kV doc pm an cdv ct), osl⟩) (hcd : codeIn (hd.heap_39 w.params) cdv qual = true)
    (ks gs : List Str) (vs : List (Option Value)) (cm : Str → Option Value) (hsc : (scopeOk scope ks gs && !scope.isGenerator) = true)
    (hb : bindArgs (fnOf name qual params body scope dV kV doc pm an cdv ct) ⟨args, []⟩ = pure binds)
    (hkind : ∀ L, ∀ x ∈ binds, scope.names.lookup x.1 = some .local ∨ (scope.names.lookup x.1 = some .cell ∧ ((cellsFrom (L + 1) scope.names []).lookup x.1).isSome = true))
    (hm : bindL (fun y => scope.names.lookup y) binds (fun _ => none) = mapOf ks vs) (hc : bindC (fun y => scope.names.lookup y) binds (fun _ => none) = cm)
    (hq : ∀ L h₁ t', EnvOk (callEnvC (fnOf name qual params body scope dV kV doc pm an cdv ct) L f) L ks gs → Fm w h L ks vs [] h₁ → Ok k (A.deeper (callEnvC (fnOf name qual params body scope dV kV doc pm an cdv ct) L f)) →
      (∀ n c, (cellsFrom (L + 1) scope.names []).lookup n = some c → h₁.IsCell c (cm n) ∧ c ≠ L ∧ h.get? c = none) →
      wpAny (Md w) (A.deeper (callEnvC (fnOf name qual params body scope dV kV doc pm an cdv ct) L f)) (execs body (callEnvC (fnOf name qual params body scope dV kV doc pm an cdv ct) L f)) (fun fl s' => Q (retOf fl) s') (fun _ _ => False) (sh h₁ g d t' os)) :
    wpAny (Md w) A (call (.ref f) args) Q E (sh h g d t os) := by
  simp only [Bool.and_eq_true, Bool.not_eq_true'] at hsc
  obtain ⟨hso, hgn⟩ := hsc
  refine wpAny_call (codeAny_call_cells (s := sh h g d t os) (fd := fnOf name qual params body scope dV kV doc pm an cdv ct) (body := body) (binds := binds) o.room (T.inK _ _ ho) rfl T.nl (codeRec_of T.inK hcd) rfl hb rfl (hkind _) (fun s₁ X => ?_) (scopeOk.co hso) hgn (scopeOk.kind hso))
  obtain ⟨h₁, tk, rfl, hk⟩ := X.done
  have hns : h₁.Ns h.objs.size (mapOf ks vs) := by rw [← hm]; exact X.toInCall.ns
  refine wpAny_mono (hq h.objs.size h₁ tk ⟨rfl, hso, rfl, rfl⟩ ⟨T, hk, hns, fresh_size h, fun i r hi => by simp at hi, fun i j r r' _ hi => by simp at hi⟩ o.deeper fun n c e => ⟨?_, ?_, ?_⟩) (fun fl s' x => ?_) fun _ _ x => x.elim
  · rw [← hc]; exact X.cell n c e
  · exact Nat.ne_of_gt (X.above n c (mem_of_lookup e))
  · exact get_ge (Nat.le_of_lt (X.above n c (mem_of_lookup e)))
  · cases fl <;> exact x
section
variable {w : World} {A : Around} {E : Value → Shared → Prop} {h₀ h h' : Heap} {env : Env} {L : Addr} {ks gs : List Str} {vs : List (Option Value)} {σ : List Reg} {g : Array GenState} {d : Drawn} {t : Nat} {os : OsState} {Q : Value → Shared → Prop}
theorem nmc {x : Str} {pos : Pos} {c : Addr} {v : Value} (hk : env.scope.kind = .function) (hl : env.kindOf x = some .cell) (hc : env.cells.lookup x = some c) (hv : h.IsCell c (some v)) (hd : (x == ("__debug__" : Str)) = false) (hq : Q v (sh h g d t os)) :
    wpAny (Md w) A (eval (.Name x pos) env) Q E (sh h g d t os) := wpAny_Name (wpAny_loadName_cell hk hl hc hv hq) hd
theorem stc (i : Nat) {x : Str} {c : Addr} {v₀ : Option Value} {v : Value} {Q : Unit → Shared → Prop} (S : Fm w h₀ L ks vs σ h) (hi : σ[i]? = some (rC c v₀)) (hk : env.scope.kind = .function) (hl : env.kindOf x = some .cell) (hc : env.cells.lookup x = some c)
    (hq : ∀ h', Fm w h₀ L ks vs (σ.set i (rC c (some v))) h' → Q () (sh h' g d t os)) : wpAny (Md w) A (storeName env x v) Q E (sh h g d t os) :=
  wpAny_storeName_cell hk hl hc (S.at i hi) fun h' hv hs => hq h' (S.put i hi (rC c (some v)) (fun b o hb e => hs.extBut b o (fun q => hb (by rw [q]; exact List.mem_singleton.mpr rfl)) e) hv fun b hb => .inl hb)
theorem zStrs {f : Nat → Str} : ∀ {is : List Nat} {zs : List (Value × Option Obj)}, Paired (fun i (z : Value × Option Obj) => z.2 = none ∧ ∃ tk, z.1 = .str (f i) tk) is zs → ∃ l, zVals zs = strValues l ∧ l.map (·.1) = is.map f
  | _, _, .nil => ⟨[], rfl, rfl⟩
  | i :: _, _, .cons ⟨_, tk, e⟩ r => by
    obtain ⟨l, h1, h2⟩ := zStrs r
    exact ⟨(f i, tk) :: l, by show _ :: zVals _ = _; rw [e, h1]; rfl, by rw [List.map_cons, List.map_cons, h2]⟩
theorem itemT {value slice : Expr} {T : Addr} {xs : Array Value} {k : Int} {u : Tok} {v : Value} (j : Nat) (hT : h.get? T = some (tupleObj xs)) (h0 : 0 ≤ k) (hk : k < 2 ^ 63) (hj : seqIndex? k xs.size = some j) (hx : xs[j]? = some v) (hq : Q v (sh h g d t os))
    (hs : subscripted slice false (.ref T) (.int k u) = operate [.ref T, .int k u] (getItem (.ref T) (.int k u)) := by with_unfolding_all rfl) (hg : ∀ r, letTemporaryGo value (.ref T) r = pure () := by intro _; with_unfolding_all rfl) :
    wpAny (Md w) A (subscriptTail value slice (.ref T) (.int k u)) Q E (sh h g d t os) :=
  item_tuple (s := sh h g d t os) ⟨_, hT, rfl, 0, rfl⟩ (by omega) hk hj hx hq hs hg
end
def allC (ps : List (Str × Str)) (n : Str) : List Str := (ps.filter fun p => decide (Txt.lower p.1 = n)).map (·.2)
theorem allC_eq (ps : List (Str × Str)) (n : Str) (p0 : Str × Str) : ((List.range ps.length).filter fun i => decide (Txt.lower (ps.getD i p0).1 = n)).map (fun i => (ps.getD i p0).2) = allC ps n := by
  have e : (List.range ps.length).map (fun i => ps.getD i p0) = ps := by
    apply List.ext_getElem
    · simp
    · intro i h1 h2
      simp at h1
      simp [List.getD, h1]
  have : allC ps n = (((List.range ps.length).map (fun i => ps.getD i p0)).filter fun p => decide (Txt.lower p.1 = n)).map (·.2) := by rw [e]; rfl
  rw [this, List.filter_map, List.map_map]; rfl
theorem getAllCall {w : World} {k : Nat} {A : Around} {E : Value → Shared → Prop} {Q : Value → Shared → Prop} {h : Heap} {g : Array GenState} {d : Drawn} {t : Nat} {os : OsState} (o : Ok (k + 8) A) (T : Tp w h) {x dx hl : Addr} {Ts : List Addr} {ps : List (Str × Str)} {nam : Str} {tn : Tok}
    (B : Tab h x dx hl Ts ps) (hps : ∀ p ∈ ps, p.1.length ≤ 100) (hlen : ps.length ≤ 100) (hn : nam.length ≤ 100) (hok : okS (Txt.lower nam) = true)
    (hq : ∀ D l h' t', Keep h h' → h'.PlainList D (strValues l).toArray → l.map (·.1) = allC ps (Txt.lower nam) → h.get? D = none → Q (.ref D) (sh h' g d t' os)) :
    wpAny (Md w) A (call (.ref 142) [.ref x, .str nam tn]) Q E (sh h g d t os) := by
  refine' enterC (k := k + 7) (binds := [(Str.ofString "self", .ref x), (Str.ofString "name", .str nam tn)]) o T ?ho ?hcd [Str.ofString "self"] [] [some (.ref x)] (fun y => if y = Str.ofString "name" then some (.str nam tn) else none) ?hsc ?hb ?hkind ?hm ?hc ?_
  case ho => exact rfl
  case hcd => exact rfl
  case hsc => decide +kernel
  case hb => exact rfl
  case hkind =>
    intro L y hy
    rcases List.mem_cons.mp hy with rfl | hy
    · exact .inl rfl
    · rw [List.mem_singleton.mp hy]; exact .inr ⟨rfl, rfl⟩
  case hm =>
    funext y
    rw [mapOf_cons]; rfl
  case hc => rfl
  intro L h₁ t₁ V S o₁ hcell
  have hc := hcell (Str.ofString "name") (L + 1) rfl
  have S := S.adopt (rC (L + 1) (some (.str nam tn))) hc.1 (fun b hb => by
    rw [List.mem_singleton.mp hb]
    exact ⟨hc.2.1, hc.2.2, fun i r' hi => by simp at hi⟩)
  refine wpAny_execs_cons (wpAny_Assign_Name (convM (k := k + 4) o₁ S.tp (B.keep S.keep).inst hok (fun Q' q => nm 0 V S rfl rfl q) (Call_method0 rfl rfl (nmc V.kind rfl rfl (S.at 0 rfl) rfl (SBL.lower (by omega) fun _ => ⟨_, _, rfl, rfl⟩))) (fun h₂ ty t₂ k₂ => ?_) rfl rfl))
  have S := S.kept k₂
  refine stc 0 S rfl V.kind rfl rfl fun h₃ S => ?_
  have B₃ := B.keep S.keep
  have hT := B.tups.len
  have hsz : (Ts.map Value.ref).toArray.size = ps.length := by simpa using hT
  refine wpAny_execs_cons (wpAny_Return_some (compEval (cl := [(Str.ofString "name", L + 1)]) rfl rfl (by decide) (attrH S.tp B₃.inst (fun Q' q => nm 0 V S rfl rfl q) fun t₄ => ?_)))
  have hax : hl < h₃.objs.size := by obtain ⟨n, e⟩ := B₃.list; exact Heap.lt_size e
  have hfr := fresh_size h₃
  refine wpAny_pyIter_list B₃.list.isList ?_
  generalize hI : h₃.objs.size = I at hax hfr
  have hItr : (h₃.push { cls := .type "list_iterator", data := .fields #[.ref hl, .int 0 0] }).IsListIter I hl 0 := ⟨_, by rw [← hI]; exact Heap.get?_push_size _ rfl, rfl, rfl⟩
  refine compN (ksC := [Str.ofString "kv"]) (gsC := []) S (Src.list (ksC := [Str.ofString "kv"]) (gsC := []) (items := (Ts.map Value.ref).toArray) (I := I) (ax := hl) o₁.hd (Nat.ne_of_lt hax) hfr 0 rfl) (by omega) (fun i => decide (Txt.lower (ps.getD i (nam, nam)).1 = Txt.lower nam)) (fun i y ob => ob = none ∧ ∃ tk, y = .str ((ps.getD i (nam, nam)).2) tk)
    (by decide +kernel) V (Keep.push h₃ _) (fun b hb => by rw [List.mem_singleton.mp hb]; exact hfr) ?_ ⟨hItr, B₃.list.isList.push _⟩ ?_ ?_ ?_
  · intro b hb
    show b < (h₃.push _).objs.size
    rw [Heap.size_push, hI]
    rcases List.mem_cons.mp hb with rfl | hb
    · exact Nat.lt_succ_self _
    · rw [List.mem_singleton.mp hb]; exact Nat.lt_succ_of_lt hax
  · rintro C i vs h' t' hi VC S' ⟨v, hv, hvs⟩
    obtain ⟨T', p, tk, tu, rfl, hTm, hpi, hT'⟩ := B₃.tups.get i v (by simpa using hv)
    have hpl := hps p (List.mem_of_getElem? hpi)
    have hg : ps.getD i (nam, nam) = p := by simp [List.getD, hpi]
    have hT'' := S'.keep _ _ hT'
    rw [hg]
    refine wpAny_tests_one (wpAny_isTrue_Compare1 (Call_method0 rfl rfl (Subscript_ (nm 0 VC S' rfl hvs (ci fun k5 t5 => itemT 0 hT'' (by decide) (by decide) rfl rfl (SBL.lower (by omega) fun _ => ?_))))))
    refine nmc (c := L + 1) (scopeOk.kind VC.sc) (lookup_relabel_free V.kind rfl rfl) rfl ((S.at 0 rfl : (rC _ _).P _).keeps S'.keep) rfl (eqS (wpAny_truthy_bool ?_))
    exact ⟨rfl, h', _, rfl, Keep.refl _⟩
  · rintro C i vs h' t' hi _ VC S' ⟨v, hv, hvs⟩
    obtain ⟨T', p, tk, tu, rfl, hTm, hpi, hT'⟩ := B₃.tups.get i v (by simpa using hv)
    have hg : ps.getD i (nam, nam) = p := by simp [List.getD, hpi]
    have hT'' := S'.keep _ _ hT'
    rw [hg]
    refine Subscript_ (nm 0 VC S' rfl hvs (ci fun k5 t5 => itemT 1 hT'' (by decide) (by decide) rfl rfl ?_))
    exact ⟨h', _, none, rfl, Keep.refl _, ⟨rfl, tu, rfl⟩, fun o e => nomatch e⟩
  · intro D h' t' zs S hP
    obtain ⟨l, h1, h2⟩ := zStrs hP
    rw [hsz, allC_eq] at h2
    have hD : h'.PlainList D (zVals zs).toArray := (S.at 0 rfl : (rZ D zs).P _).1
    rw [h1] at hD
    exact hq D l h' t' S.keep hD h2 ((S.led 0 _ rfl).2 D (List.mem_cons_self ..)).2
end Mine
end
section
open PySem PySem.W PySem.W.X PyProof.Rows PySem.Calls
set_option maxRecDepth 100000
set_option maxHeartbeats 2000000
namespace Mine

/-- a call of a def with **words, none given -/
theorem enterG {w : World} {k : Nat} {A : Around} {E : Value → Shared → Prop} {Q : Value → Shared → Prop} {h : Heap} {g : Array GenState} {d : Drawn} {t : Nat} {os : OsState} (o : Ok (k + 1) A) (T : Tp w h)
    {f : Addr} {args vals : List Value} {name qual : Str} {params : Arguments} {body : List Stmt} {scope : Scope} {dV kV doc pm cdv ct oc : Value} {an od : Option Addr} {osl : Array (Option Value)}
    (ho : (hd.heap_39 w.params).lookup f = some ⟨oc, od, .func (fnOf name qual params body scope dV kV doc pm an cdv ct), osl⟩) (hcd : codeIn (hd.heap_39 w.params) cdv qual = true)
    (ks1 ks2 gs : List Str) (hsc : (scopeOk scope (ks1 ++ ks2) gs && noCells scope && !scope.isGenerator) = true)
    (hb : bindArgs (fnOf name qual params body scope dV kV doc pm an cdv ct) ⟨args, []⟩ = (alloc { cls := .type "dict", data := .dict #[] } >>= fun dd => pure (ks1.zip (vals ++ [.ref dd])))) (hl : ks1.length = (vals.length + 1))
    (hq : ∀ L h₁ t' env, EnvOk env L (ks1 ++ ks2) gs → Fm w h L (ks1 ++ ks2) ((vals ++ [Value.ref h.objs.size]).map some ++ List.replicate ks2.length none) [rO h.objs.size { cls := .type "dict", data := .dict #[] }] h₁ → Ok k (A.deeper env) →
      wpAny (Md w) (A.deeper env) (execs body env) (fun fl s' => Q (retOf fl) s') (fun _ _ => False) (sh h₁ g d t' os)) :
    wpAny (Md w) A (call (.ref f) args) Q E (sh h g d t os) := by
  simp only [Bool.and_eq_true, Bool.not_eq_true'] at hsc
  obtain ⟨⟨hso, hnc⟩, hgn⟩ := hsc
  refine wpAny_call (codeAny_call_function o.room (T.inK _ _ ho) rfl (scopeOk.co hso) hgn rfl (codeRec_of T.inK hcd) ?_)
  rw [hb]
  refine wpAny_bind (wpAny_alloc' (wpAny_pure ?_))
  refine wpAny_newFunctionEnv (fun x hx => by have := List.all_eq_true.mp hnc x hx; simpa using this) (fun x hx => (scopeOk.local hso (List.mem_append_left _ (List.of_mem_zip hx).1)).1) (fun h₀ hns hsb => ?_) (scopeOk.kind hso)
  dsimp only at hns hsb ⊢
  have hl' : ks1.length = (vals ++ [Value.ref h.objs.size]).length := by simpa using hl
  rw [mapOf_init hl' (scopeOk.nd hso)] at hns
  have k₀ : Keep h (h.push { cls := .type "dict", data := .dict #[] }) := Keep.push _ _
  have T₁ : Tp w (h.push { cls := .type "dict", data := .dict #[] }) := T.keep k₀
  have hsz : (h.push { cls := .type "dict", data := .dict #[] }).objs.size = h.objs.size + 1 := Heap.size_push ..
  have hdd : (h.push { cls := .type "dict", data := .dict #[] }).get? h.objs.size = some { cls := .type "dict", data := .dict #[] } := Heap.get?_push_size _ rfl
  generalize h.push { cls := .type "dict", data := .dict #[] } = h₁ at hns hsb k₀ T₁ hsz hdd
  have k₁ : Keep h₁ h₀ := fun b o e => hsb.extBut b o (Nat.ne_of_lt (Heap.lt_size e)) (Heap.get?_push_of_some _ e)
  refine ⟨T₁.nl.fresh _ hsb, codeAny_func ?_⟩
  have S : Fm w h h₁.objs.size (ks1 ++ ks2) ((vals ++ [Value.ref h.objs.size]).map some ++ List.replicate ks2.length none) [] h₀ := ⟨T, k₀.trans k₁, hns, get_ge (by rw [hsz]; exact Nat.le_succ _), fun i r hi => by simp at hi, fun i j r r' _ hi => by simp at hi⟩
  have S := S.adopt (rO h.objs.size { cls := .type "dict", data := .dict #[] }) (k₁ _ _ hdd) (fun b hb => by
    rw [List.mem_singleton.mp hb]
    refine ⟨fun q => ?_, fresh_size h, fun i r' hi => by simp at hi⟩
    rw [hsz] at q
    exact absurd q (Nat.ne_of_lt (Nat.lt_succ_self _)))
  refine wpAny_mono (hq h₁.objs.size h₀ _ (callEnv (fnOf name qual params body scope dV kV doc pm an cdv ct) h₁.objs.size f) ⟨rfl, hso, rfl, rfl⟩ S o.deeper) (fun fl s' x => ?_) fun _ _ x => x.elim
  cases fl <;> exact x
theorem Fm.rebase' {w : World} {hB h h₁ : Heap} {L : Addr} {ks : List Str} {vs : List (Option Value)} {σ : List Reg} (S : Fm w h L ks vs σ h₁) (T : Tp w hB) (kB : Keep hB h) (r : Reg) (hP : r.P h) (hf : ∀ b ∈ r.fp, hB.get? b = none) : Fm w hB L ks vs (r :: σ) h₁ := by
  have S' : Fm w hB L ks vs σ h₁ := {
    top := T
    keep := kB.trans S.keep
    ns := S.ns
    fresh := by
      cases q : hB.get? L with
      | none => rfl
      | some o => have := kB _ _ q; rw [S.fresh] at this; cases this
    led := fun i r hi => ⟨(S.led i r hi).1, fun b hb => ⟨((S.led i r hi).2 b hb).1, by
      cases q : hB.get? b with
      | none => rfl
      | some o => have := kB _ _ q; rw [((S.led i r hi).2 b hb).2] at this; cases this⟩⟩
    dj := S.dj }
  refine S'.adopt r (r.fr _ _ hP (S.keep.same _)) fun b hb => ⟨fun e => ?_, hf b hb, fun i r' hi hb' => ?_⟩
  · obtain ⟨o, q⟩ := r.al _ hP b hb
    rw [e, S.fresh] at q; cases q
  · obtain ⟨o, q⟩ := r.al _ hP b hb
    rw [((S.led i r' hi).2 b hb').2] at q; cases q
theorem Fm.pop {w : World} {h₀ h h' : Heap} {L : Addr} {ks : List Str} {vs : List (Option Value)} {r : Reg} {σ : List Reg} (S : Fm w h₀ L ks vs (r :: σ) h) (k : ∀ b o, b ∉ r.fp → h.get? b = some o → h'.get? b = some o) : Fm w h₀ L ks vs σ h' :=
  (S.drop 1).off (fp := r.fp) (fun b hb => ⟨((S.led 0 r rfl).2 b hb).1, ((S.led 0 r rfl).2 b hb).2, fun j r' hj hb' => S.dj 0 (j + 1) r r' (by omega) rfl hj b hb hb'⟩) k
section
variable {w : World} {A : Around} {E : Value → Shared → Prop} {h₀ h h' : Heap} {env : Env} {L : Addr} {ks gs : List Str} {vs : List (Option Value)} {σ : List Reg} {g : Array GenState} {d : Drawn} {t : Nat} {os : OsState} {Q : Value → Shared → Prop}
/-- l.append(x), l told by any expression -/
theorem app2 {l : Addr} {items : Array Value} {o e : Expr} {apos pos : Pos}
    (hbase : attributeBase o "append" env (eval o env) = eval o env) (hs : starEach [e] env = [(false, eval e env)]) (hline : (apos.endLine == pos.line) = true) (hsz : items.size ≤ sizeLine)
    (ho : wpAny (Md w) A (eval o env) (fun v s₁ => ∃ h₁ g₁ t₁, v = .ref l ∧ s₁ = sh h₁ g₁ d t₁ os ∧ h₁.PlainList l items ∧
      wpAny (Md w) A (eval e env) (fun x s₂ => s₂.heap.PlainList l items ∧ ∀ h', h'.PlainList l (items.push x) → Heap.ExtBut l s₂.heap h' → Q .none { s₂ with heap := h' }) E s₁) E (sh h g d t os)) :
    wpAny (Md w) A (eval (.Call (.Attribute o "append" apos) [e] [] pos) env) Q E (sh h g d t os) := by
  refine Call_method1 hbase hs hline (wpAny_mono ho (fun v s₁ h₁ => ?_) fun _ _ x => x)
  obtain ⟨h₁, g₁, t₁, rfl, rfl, hl, hx⟩ := h₁
  refine ⟨"list", "list.append", F.plainAttrs_list, slot_list_append, type_list_append, hl.isList.typeIs, fun a e => ?_, ?_⟩
  · cases e
    obtain ⟨n, e⟩ := hl
    exact ⟨_, e, rfl⟩
  · refine Calls.callWith_builtin rfl (Calls.evalArgs_plain (Calls.spliced_cons (wpAny_mono hx (fun x s₂ hx => Calls.spliced_nil ?_) fun _ _ e => e)))
    exact wpAny_list_append_plain hx.1 (fun h' hl' hs' => hx.2 h' hl' hs'.extBut) hsz
end
theorem addCall {w : World} {k : Nat} {A : Around} {E : Value → Shared → Prop} {Q : Value → Shared → Prop} {hB h : Heap} {g : Array GenState} {d : Drawn} {t : Nat} {os : OsState} (o : Ok (k + 8) A) (T : Tp w hB) (kB : Keep hB h) {x dx hl : Addr} {items : Array Value} {nam val : Str} {tn tv : Tok}
    (I : (rI x dx hl).P hB) (hlB : hB.get? hl = none) (hP : h.PlainList hl items) (hsz : items.size ≤ 1000) (hn : okS nam = true) (hv : okS val = true)
    (hq : ∀ T h' t' t1 t2, Keep hB h' → h'.PlainList hl (items.push (.ref T)) → h'.get? T = some (tupleObj #[.str nam t1, .str val t2]) → hB.get? T = none → T ≠ hl → Q .none (sh h' g d t' os)) :
    wpAny (Md w) A (call (.ref 200) [.ref x, .str nam tn, .str val tv]) Q E (sh h g d t os) := by
  have Th : Tp w h := T.keep kB
  refine' enterG (k := k + 7) (vals := [.ref x, .str nam tn, .str val tv]) o Th ?ho ?hcd [Str.ofString "self", Str.ofString "_name", Str.ofString "_value", Str.ofString "_params"] [Str.ofString "parts", Str.ofString "k", Str.ofString "v"] [] ?hsc ?hb ?hl ?_
  case ho => exact rfl
  case hcd => exact rfl
  case hsc => decide +kernel
  case hb => exact rfl
  case hl => exact rfl
  intro L h₁ t₁ env V S o₁
  have S := S.rebase' T kB (rP hl items) hP (fun b hb => by rw [List.mem_singleton.mp hb]; exact hlB)
  refine wpAny_execs_cons (wpAny_Assign_Name (List_ (spliced_none (newL (Nat.zero_le _) ?_))))
  have S := S.add (Keep.push h₁ _) (rP h₁.objs.size #[]) (plain_push h₁ _) (fun b hb => by rw [List.mem_singleton.mp hb]; exact fresh_size h₁)
  generalize h₁.objs.size = P at S
  have hsm : (h.objs.size == sysModules) = false := by
    have h203 : 203 < h.objs.size := Heap.lt_size (Th.inK 203 _ rfl)
    have : h.objs.size ≠ 1 := fun q => by rw [q] at h203; exact absurd h203 (by decide)
    simpa [sysModules] using this
  generalize h.objs.size = DD at S hsm
  refine st 4 V S rfl rfl fun h₂ t₂ S => ?_
  have Ik : ∀ {h'}, Keep hB h' → (rI x dx hl).P h' := fun k => (rI x dx hl).fr _ _ I (k.same _)
  refine wpAny_execs_cons (wpAny_If (wpAny_isTrue_Compare1 (nm 2 V S rfl rfl (cn (wpAny_isNot_other rfl (by simp) (wpAny_truthy_bool ?_))))))
  rw [if_pos rfl]
  refine wpAny_execs_cons (wpAny_Assign_Name (convM (k := k + 4) o₁ S.tp (Ik S.keep) hv (fun Q' q => nm 0 V S rfl rfl q) (nm 2 V S rfl rfl ⟨_, _, rfl, rfl⟩) (fun h₃ ty t₃ k₃ => ?_) rfl rfl))
  have S := S.kept k₃
  refine st 2 V S rfl rfl fun h₄ t₄ S => ?_
  refine wpAny_execs_cons (wpAny_Expr (app1 rfl rfl rfl (Nat.zero_le _) (fun Q' q => nm 4 V S rfl rfl q) (S.at 0 rfl) (nm 2 V S rfl rfl ⟨S.at 0 rfl, fun h₅ hl₅ hx₅ => ?_⟩)) V.inter)
  have S := S.put 0 rfl (rP P (strValues [(val, ty)]).toArray) (h' := h₅) (fun b o hb e => hx₅ b o (fun q => hb (by rw [q]; exact List.mem_singleton.mpr rfl)) e) hl₅ (fun b hb => .inl hb)
  refine wpAny_execs_nil ?_
  -- for k, v in _params.items()
  refine wpAny_execs_cons (wpAny_For (Call_method0 rfl rfl (nm 3 V S rfl rfl ⟨"dict", "dict.items", F.plainAttrs_dict, F.slot_dict_items, F.type_dict_items, ⟨_, S.at 2 rfl, rfl⟩, fun a e => (by cases e; exact ⟨_, S.at 2 rfl, rfl⟩), ?_⟩)))
  have dictAt : ∀ {h' : Heap}, h'.get? DD = some { cls := .type "dict", data := .dict #[] } → h'.DictAt (PySem.strKind PySem.Challenge.pw_sn0040_01 w) DD [] 0 := fun e => ⟨_, #[], e, ⟨rfl, rfl, rfl⟩, rfl, (fun x hx => by simp at hx), .nil, List.nodup_nil⟩
  have hD5 : h₅.get? DD = some { cls := .type "dict", data := .dict #[] } := S.at 2 rfl
  refine Calls.callWith_builtin (args := []) rfl (PySem.evalArgs_none ?_)
  refine call_meetsIn PySem.F.slot_dict_items ⟨_, hD5, rfl⟩ PySem.F.entry_dict_items (PySem.F.args_dict_items_1 _) (meets_dict_items (PySem.strKind PySem.Challenge.pw_sn0040_01 w) DD hsm) ⟨⟨[], let ⟨o, es, a, b, c, d', e, f⟩ := dictAt hD5; ⟨o, es, 0, a, b, c, d', e, f⟩⟩, ?_⟩
  have S := S.add (Keep.push h₅ _) (rO h₅.objs.size { cls := .type "dict_items", data := .fields #[.ref DD] }) (Heap.get?_push_size _ rfl) (fun b hb => by rw [List.mem_singleton.mp hb]; exact fresh_size h₅)
  show wpAny _ _ (pyIter (.ref h₅.objs.size)) _ _ (sh (h₅.push _) g d _ os)
  generalize h₅.push { cls := .type "dict_items", data := .fields #[.ref DD] } = h₆ at S ⊢
  have hv6 : h₆.IsItemsView h₅.objs.size DD := ⟨_, S.at 0 rfl, rfl, rfl⟩
  have hD6 : h₆.get? DD = some { cls := .type "dict", data := .dict #[] } := S.at 3 rfl
  refine wpAny_pyIter_items hv6 (dictAt hD6) ?_
  have S := S.add (Keep.push h₆ _) (rO h₆.objs.size { cls := .type "dict_itemiterator", data := .fields #[.none, .bool false, .ref DD, .int 0 0, .int ([] : List (Str × Value)).length 0, .int (0 : Nat) 0, .none, .none] }) (Heap.get?_push_size _ rfl) (fun b hb => by rw [List.mem_singleton.mp hb]; exact fresh_size h₆)
  show codeAny _ _ (.forLoop _ (.ref h₆.objs.size) _ _ _) _ (sh (h₆.push _) g d _ os)
  generalize h₆.push { cls := .type "dict_itemiterator", data := .fields #[.none, .bool false, .ref DD, .int 0 0, .int ([] : List (Str × Value)).length 0, .int (0 : Nat) 0, .none, .none] } = h₇ at S ⊢
  generalize h₆.objs.size = IT at S ⊢
  have hD7 : h₇.get? DD = some { cls := .type "dict", data := .dict #[] } := S.at 4 rfl
  refine codeAny_forLoop_any (fun _ s => s = sh h₇ g d _ os) ?_ 0 rfl
  rintro _ s rfl
  refine wpAny_pyNext_items_end (i := 0) (kvs := ([] : List (Str × Value))) o₁.hd (S.at 0 rfl) (dictAt hD7) rfl fun h₈ hx₈ => ?_
  have S := S.pop (h' := h₈) (fun b o hb e => hx₈ b o (fun q => hb (by rw [q]; exact List.mem_singleton.mpr rfl)) e)
  refine wpAny_execs_nil ?_
  refine wpAny_execs_cons (wpAny_Expr (app2 rfl rfl rfl (by rw [sizeLine_eq]; omega) (attrH S.tp (Ik S.keep) (fun Q' q => nm 0 V S rfl rfl q) fun t' => ⟨_, _, _, rfl, rfl, S.at 2 rfl, Tuple_ (spliced_more (convM (k := k + 4) o₁ S.tp (Ik S.keep) hn (fun Q' q => nm 0 V S rfl rfl q) (nm 1 V S rfl rfl ⟨_, _, rfl, rfl⟩) (fun h₉ ty9 t₉ k₉ => ?_) rfl rfl))⟩)) V.inter)
  have S := S.kept k₉
  have hjok : JoinOk (Str.ofString "; ") [val] = true := joinOk_of (by
    have h1 := okS.len hv
    have h2 : (Str.ofString "; ").length = 2 := by decide
    simp [h2]; omega)
  refine spliced_more ?_
  refine Call_method1 ?mma2 ?mmb2 ?mmc2 ?mmd2
  case mma2 => exact rfl
  case mmb2 => exact rfl
  case mmc2 => exact rfl
  refine cs fun k10 t10 => ?_
  refine SB.join ?_
  refine nm 4 V S rfl rfl ⟨_, [(val, ty)], rfl, (S.at 1 rfl : Heap.PlainList _ _ _).isList, _, rfl, hjok, fun tk t' => spliced_none (mkTup ?_ (two _ _))⟩
  refine ⟨(S.kept (Keep.push _ _)).at 2 rfl, fun h' hl' hx' => ?_⟩
  have hj : Txt.join (Str.ofString "; ") [val] = val := StrLaws.glued_eq_join _ _
  refine wpAny_execs_nil ?_
  have hTB : hB.get? h₉.objs.size = none := by
    cases q : hB.get? h₉.objs.size with
    | none => rfl
    | some o => exact absurd (Heap.lt_size (S.keep _ _ q)) (Nat.lt_irrefl _)
  have hTl : h₉.objs.size ≠ hl := fun e => by
    obtain ⟨n, q⟩ := (S.at 2 rfl : Heap.PlainList _ _ _)
    rw [← e] at q
    exact absurd (Heap.lt_size q) (Nat.lt_irrefl _)
  refine hq h₉.objs.size h' _ ty9 tk (fun b o e => hx' b o (fun q => by rw [q, hlB] at e; cases e) (Heap.get?_push_of_some _ (S.keep b o e))) hl' (hx' _ _ hTl ?_) hTB hTl
  exact (Heap.get?_push_size _ rfl).trans (by show some (tupleObj #[.str nam ty9, .str (Txt.join (Str.ofString "; ") [val]) tk]) = some (tupleObj #[.str nam ty9, .str val tk]); rw [hj])
end Mine
end
section
open PySem PySem.W PySem.W.X PyProof.Rows PySem.Calls
set_option maxRecDepth 100000
set_option maxHeartbeats 2000000
namespace Mine

open PySem.Flt
def maxV (a b c : Value) : Value := if ltV a b then (if ltV b c then c else b) else (if ltV a c then c else a)
def minV (a b c : Value) : Value := if ltV b a then (if ltV c b then c else b) else (if ltV c a then c else a)
section
variable {w : World} {A : Around} {E : Value → Shared → Prop} {h₀ h : Heap} {env : Env} {L : Addr} {ks gs : List Str} {vs : List (Option Value)} {σ : List Reg} {g : Array GenState} {d : Drawn} {t : Nat} {os : OsState} {Q : Value → Shared → Prop} {x y : UInt64} {tx ty : Tok}
theorem max3 {a b c : Value} {Q : Value → Shared → Prop} (hh : A.handled = none) (ha : NumV a) (hb : NumV b) (hc : NumV c)
    (hq : ∀ h' t', Keep h h' → Q (maxV a b c) (sh h' g d t' os)) : wpAny (Md w) A (call (.builtin "max") [a, b, c]) Q E (sh h g d t os) := by
  have hT : (h.push { cls := .type "tuple", data := .seq #[a, b, c] }).IsTuple h.objs.size #[a, b, c] := ⟨_, Heap.get?_push_size _ rfl, rfl, 0, rfl⟩
  refine call_max_three (wpAny_pyIter_tuple hT ?_)
  have hsz : (h.push { cls := .type "tuple", data := .seq #[a, b, c] }).objs.size = h.objs.size + 1 := Heap.size_push ..
  refine ⟨_, [_, h.objs.size], [_], _, _, _, _, rfl, Walks.tuple (A := A.in1) hh _ h.objs.size (by rw [hsz]; exact Nat.ne_of_lt (Nat.lt_succ_self _)) #[a, b, c],
    ⟨⟨_, Heap.get?_push_size _ rfl, rfl, rfl⟩, hT.push _⟩, fun d hd => ?_, by simp, cmpOf_gt #[a, b, c] (by simp [ha, hb, hc]), fun v h' tk hP hk => ?_⟩
  · show d < ((h.push _).push _).objs.size
    rw [Heap.size_push, hsz]
    rcases List.mem_cons.mp hd with rfl | hd
    · rw [hsz]; exact Nat.lt_succ_self _
    · rcases List.mem_cons.mp hd with rfl | hd
      · exact Nat.lt_succ_of_lt (Nat.lt_succ_self _)
      · cases hd
  · have hold : ∀ d o, h.get? d = some o → h'.get? d = some o := fun d o e => by
      refine hk d o (fun hm => ?_) (Heap.get?_push_of_some _ (Heap.get?_push_of_some _ e))
      rcases List.mem_cons.mp hm with e1 | hm
      · have := Heap.lt_size e; rw [e1, hsz] at this; exact Nat.lt_irrefl _ (Nat.lt_of_succ_lt this)
      · cases hm
    have := hq h' tk hold
    have hv : v = maxV a b c := by
      unfold maxV
      cases h1 : ltV a b <;> simp [argBest, h1] at hP ⊢
      · cases h2 : ltV a c <;> simp [h2] at hP ⊢ <;> exact hP.symm
      · cases h2 : ltV b c <;> simp [h2] at hP ⊢ <;> exact hP.symm
    rw [hv]; exact this
theorem min3 {a b c : Value} {Q : Value → Shared → Prop} (hh : A.handled = none) (ha : NumV a) (hb : NumV b) (hc : NumV c)
    (hq : ∀ h' t', Keep h h' → Q (minV a b c) (sh h' g d t' os)) : wpAny (Md w) A (call (.builtin "min") [a, b, c]) Q E (sh h g d t os) := by
  have hT : (h.push { cls := .type "tuple", data := .seq #[a, b, c] }).IsTuple h.objs.size #[a, b, c] := ⟨_, Heap.get?_push_size _ rfl, rfl, 0, rfl⟩
  refine call_min_three (wpAny_pyIter_tuple hT ?_)
  have hsz : (h.push { cls := .type "tuple", data := .seq #[a, b, c] }).objs.size = h.objs.size + 1 := Heap.size_push ..
  refine ⟨_, [_, h.objs.size], [_], _, _, _, _, rfl, Walks.tuple (A := A.in1) hh _ h.objs.size (by rw [hsz]; exact Nat.ne_of_lt (Nat.lt_succ_self _)) #[a, b, c],
    ⟨⟨_, Heap.get?_push_size _ rfl, rfl, rfl⟩, hT.push _⟩, fun d hd => ?_, by simp, cmpOf_lt #[a, b, c] (by simp [ha, hb, hc]), fun v h' tk hP hk => ?_⟩
  · show d < ((h.push _).push _).objs.size
    rw [Heap.size_push, hsz]
    rcases List.mem_cons.mp hd with rfl | hd
    · rw [hsz]; exact Nat.lt_succ_self _
    · rcases List.mem_cons.mp hd with rfl | hd
      · exact Nat.lt_succ_of_lt (Nat.lt_succ_self _)
      · cases hd
  · have hold : ∀ d o, h.get? d = some o → h'.get? d = some o := fun d o e => by
      refine hk d o (fun hm => ?_) (Heap.get?_push_of_some _ (Heap.get?_push_of_some _ e))
      rcases List.mem_cons.mp hm with e1 | hm
      · have := Heap.lt_size e; rw [e1, hsz] at this; exact Nat.lt_irrefl _ (Nat.lt_of_succ_lt this)
      · cases hm
    have := hq h' tk hold
    have hv : v = minV a b c := by
      unfold minV
      cases h1 : ltV b a <;> simp [argBest, h1] at hP ⊢
      · cases h2 : ltV c a <;> simp [h2] at hP ⊢ <;> exact hP.symm
      · cases h2 : ltV c b <;> simp [h2] at hP ⊢ <;> exact hP.symm
    rw [hv]; exact this

theorem cf {x : UInt64} {k : Nat} {pos : Pos} (hq : ∀ tk t', Q (.float x tk) (sh h g d t' os)) : wpAny (Md w) A (eval (.Constant (.float x) k pos) env) Q E (sh h g d t os) := wpAny_Constant_float (hq _ _)
theorem addF (hq : ∀ tk t', Q (.float (Float64.add x y) tk) (sh h g d t' os)) : wpAny (Md w) A (binaryOp .Add (.float x tx) (.float y ty)) Q E (sh h g d t os) := PyProof.Rows.add_float (hq _ _)
theorem subF (hq : ∀ tk t', Q (.float (Float64.sub x y) tk) (sh h g d t' os)) : wpAny (Md w) A (binaryOp .Sub (.float x tx) (.float y ty)) Q E (sh h g d t os) := PyProof.Rows.sub_float (hq _ _)
theorem divF (hy : Float64.isZero y = false) (hq : ∀ tk t', Q (.float (Float64.div x y) tk) (sh h g d t' os)) : wpAny (Md w) A (binaryOp .Div (.float x tx) (.float y ty)) Q E (sh h g d t os) :=
  AutoFloatOps.truediv_1 (by rw [hy]; exact Bool.false_ne_true) (hq _ _)
theorem modF (hy : Float64.isZero y = false) (hq : ∀ tk t', Q (.float (Float64.divmod x y).2 tk) (sh h g d t' os)) : wpAny (Md w) A (binaryOp .Mod (.float x tx) (.float y ty)) Q E (sh h g d t os) :=
  AutoFloatOps.mod_1 (by rw [hy]; exact Bool.false_ne_true) (hq _ _)
theorem eqF (hq : Q (.bool (Float64.cmp x y == some .eq)) (sh h g d t os)) : wpAny (Md w) A (compareOp .Eq (.float x tx) (.float y ty)) Q E (sh h g d t os) := AutoFloatOps.eq_0 hq
theorem leF (hq : Q (.bool (Float64.cmp x y == some .lt || Float64.cmp x y == some .eq)) (sh h g d t os)) : wpAny (Md w) A (compareOp .LtE (.float x tx) (.float y ty)) Q E (sh h g d t os) := AutoFloatOps.le_0 hq
end
def ltF (x y : UInt64) : Bool := Float64.cmp x y == some .lt
def eqFb (x y : UInt64) : Bool := Float64.cmp x y == some .eq
def max3F (a b c : UInt64) : UInt64 := if ltF a b then (if ltF b c then c else b) else (if ltF a c then c else a)
def min3F (a b c : UInt64) : UInt64 := if ltF b a then (if ltF c b then c else b) else (if ltF c a then c else a)
theorem maxV_f (a b c : UInt64) (ta tb tc : Tok) : ∃ tk, maxV (.float a ta) (.float b tb) (.float c tc) = .float (max3F a b c) tk := by
  unfold maxV max3F
  show ∃ tk, (if ltF a b then (if ltF b c then Value.float c tc else .float b tb) else (if ltF a c then .float c tc else .float a ta)) = _
  cases ltF a b <;> cases ltF b c <;> cases ltF a c <;> exact ⟨_, rfl⟩
theorem minV_f (a b c : UInt64) (ta tb tc : Tok) : ∃ tk, minV (.float a ta) (.float b tb) (.float c tc) = .float (min3F a b c) tk := by
  unfold minV min3F
  show ∃ tk, (if ltF b a then (if ltF c b then Value.float c tc else .float b tb) else (if ltF c a then .float c tc else .float a ta)) = _
  cases ltF b a <;> cases ltF c b <;> cases ltF c a <;> exact ⟨_, rfl⟩
/-- what rgb_to_hls computes -/
def hlsS (r g b : UInt64) : UInt64 :=
  let M := max3F r g b; let m := min3F r g b
  if (Float64.cmp (Float64.div (Float64.add M m) 0x4000000000000000) 0x3fe0000000000000 == some .lt || Float64.cmp (Float64.div (Float64.add M m) 0x4000000000000000) 0x3fe0000000000000 == some .eq) = true then Float64.div (Float64.sub M m) (Float64.add M m)
  else Float64.div (Float64.sub M m) (Float64.sub (Float64.sub 0x4000000000000000 M) m)
def hlsH0 (r g b : UInt64) : UInt64 :=
  let M := max3F r g b; let m := min3F r g b; let e := Float64.sub M m
  let rc := Float64.div (Float64.sub M r) e; let gc := Float64.div (Float64.sub M g) e; let bc := Float64.div (Float64.sub M b) e
  if eqFb r M = true then Float64.sub bc gc else if eqFb g M = true then Float64.sub (Float64.add 0x4000000000000000 rc) bc else Float64.sub (Float64.add 0x4010000000000000 gc) rc
def hlsL (r g b : UInt64) : UInt64 := Float64.div (Float64.add (max3F r g b) (min3F r g b)) 0x4000000000000000
def hlsC (r g b : UInt64) : UInt64 × UInt64 × UInt64 :=
  if eqFb (min3F r g b) (max3F r g b) = true then (0, hlsL r g b, 0)
  else ((Float64.divmod (Float64.div (hlsH0 r g b) 0x4018000000000000) 0x3ff0000000000000).2, hlsL r g b, hlsS r g b)
/-- no division by nothing -/
def hlsOk (r g b : UInt64) : Bool :=
  eqFb (min3F r g b) (max3F r g b) || (!Float64.isZero (Float64.sub (max3F r g b) (min3F r g b)) && !Float64.isZero (Float64.add (max3F r g b) (min3F r g b)) && !Float64.isZero (Float64.sub (Float64.sub 0x4000000000000000 (max3F r g b)) (min3F r g b)))
end Mine
end
section
open PySem PySem.W PySem.W.X PyProof.Rows PySem.Calls
set_option maxRecDepth 100000
set_option maxHeartbeats 2000000
namespace Mine

open PySem.Flt
abbrev ksH : List Str := [Str.ofString "r", Str.ofString "g", Str.ofString "b", Str.ofString "maxc", Str.ofString "minc", Str.ofString "sumc", Str.ofString "rangec", Str.ofString "l", Str.ofString "s", Str.ofString "rc", Str.ofString "gc", Str.ofString "bc", Str.ofString "h"]
theorem hlsCall {w : World} {k : Nat} {A : Around} {E : Value → Shared → Prop} {Q : Value → Shared → Prop} {h : Heap} {g : Array GenState} {d : Drawn} {t : Nat} {os : OsState} (o : Ok (k + 4) A) (T : Tp w h) {a b c : UInt64} {ta tb tc : Tok} (hok : hlsOk a b c = true)
    (hq : ∀ T h' t' t1 t2 t3, Keep h h' → h'.get? T = some (tupleObj #[.float (hlsC a b c).1 t1, .float (hlsC a b c).2.1 t2, .float (hlsC a b c).2.2 t3]) → h.get? T = none → Q (.ref T) (sh h' g d t' os)) :
    wpAny (Md w) A (call (.ref 59) [.float a ta, .float b tb, .float c tc]) Q E (sh h g d t os) := by
  refine' enter (k := k + 3) o T ?ho ?hcd [Str.ofString "r", Str.ofString "g", Str.ofString "b"] [Str.ofString "maxc", Str.ofString "minc", Str.ofString "sumc", Str.ofString "rangec", Str.ofString "l", Str.ofString "s", Str.ofString "rc", Str.ofString "gc", Str.ofString "bc", Str.ofString "h"] [Str.ofString "max", Str.ofString "min"] ?hsc ?hb ?hl ?_
  case ho => exact rfl
  case hcd => exact rfl
  case hsc => decide +kernel
  case hb => exact rfl
  case hl => exact rfl
  intro L h₁ t₁ env V S o₁
  obtain ⟨tM, hM⟩ := maxV_f a b c ta tb tc
  obtain ⟨tm, hm⟩ := minV_f a b c ta tb tc
  have hz2 : Float64.isZero 0x4000000000000000 = false := by decide +kernel
  have three : ∀ (x y z : Value), [x, y, z].length ≤ sizeLine := fun _ _ _ => by rw [sizeLine_eq]; exact (by decide : 3 ≤ 16777216)
  have none_ : ∀ {h' : Heap}, Keep h h' → h.get? h'.objs.size = none := fun {h'} kp => by
    cases q : h.get? h'.objs.size with
    | none => rfl
    | some o => exact absurd (Heap.lt_size (kp _ _ q)) (Nat.lt_irrefl _)
  refine wpAny_execs_cons (wpAny_Assign_Name (Call_ (bi (v := .builtin "max") V S.tp (by decide) (by rfl) (by rfl) (by decide) (PyProof.Rows.callWith_builtin1 (spliced_more (nm 0 V S rfl rfl (spliced_more (nm 1 V S rfl rfl (spliced_more (nm 2 V S rfl rfl (spliced_none (max3 o₁.hd (.float a ta) (.float b tb) (.float c tc) fun h₂ t₂ k₂ => ?_))))))))))))
  rw [hM]
  have S := S.kept k₂
  refine st 3 V S rfl rfl fun h₃ t₃ S => ?_
  refine wpAny_execs_cons (wpAny_Assign_Name (Call_ (bi (v := .builtin "min") V S.tp (by decide) (by rfl) (by rfl) (by decide) (PyProof.Rows.callWith_builtin1 (spliced_more (nm 0 V S rfl rfl (spliced_more (nm 1 V S rfl rfl (spliced_more (nm 2 V S rfl rfl (spliced_none (min3 o₁.hd (.float a ta) (.float b tb) (.float c tc) fun h₄ t₄ k₄ => ?_))))))))))))
  rw [hm]
  have S := S.kept k₄
  refine st 4 V S rfl rfl fun h₅ t₅ S => ?_
  refine wpAny_execs_cons (wpAny_Assign_Name (wpAny_BinOp (nm 3 V S rfl rfl (nm 4 V S rfl rfl (addF fun k6 t6 => st 5 V S rfl rfl fun h₆ t₆ S => ?_)))))
  refine wpAny_execs_cons (wpAny_Assign_Name (wpAny_BinOp (nm 3 V S rfl rfl (nm 4 V S rfl rfl (subF fun k7 t7 => st 6 V S rfl rfl fun h₇ t₇ S => ?_)))))
  refine wpAny_execs_cons (wpAny_Assign_Name (wpAny_BinOp (nm 5 V S rfl rfl (cf fun k8 t8 => divF hz2 fun k9 t9 => st 7 V S rfl rfl fun h₈ t₈ S => ?_))))
  refine wpAny_execs_cons (wpAny_If (wpAny_isTrue_Compare1 (nm 4 V S rfl rfl (nm 3 V S rfl rfl (eqF (wpAny_truthy_bool ?_))))))
  cases he : eqFb (min3F a b c) (max3F a b c) with
  | true =>
    have he' : (Float64.cmp (min3F a b c) (max3F a b c) == some .eq) = true := he
    rw [he', if_pos rfl]
    refine wpAny_execs_cons (wpAny_Return_some (Tuple_ (spliced_more (cf fun k10 t10 => spliced_more (nm 7 V S rfl rfl (spliced_more (cf fun k11 t11 => spliced_none (mkTup ?_ (three _ _ _)))))))))
    refine hq _ _ _ k10 k9 k11 (S.keep.trans (Keep.push _ _)) ((Heap.get?_push_size _ rfl).trans ?_) (none_ S.keep)
    unfold hlsC
    rw [he, if_pos rfl]; rfl
  | false =>
    have he' : (Float64.cmp (min3F a b c) (max3F a b c) == some .eq) = false := he
    rw [he', if_neg Bool.false_ne_true]
    unfold hlsOk at hok
    rw [he, Bool.false_or] at hok
    simp only [Bool.and_eq_true, Bool.not_eq_true'] at hok
    obtain ⟨⟨hz3, hz4⟩, hz5⟩ := hok
    refine wpAny_execs_nil ?_
    refine wpAny_execs_cons (wpAny_mono (Q := fun f s' => f = Flow.next ∧ ∃ (h₉ : Heap) (t₉ : Nat) (tk : Tok), s' = sh h₉ g d t₉ os ∧ Fm w h L ksH [some (.float a ta), some (.float b tb), some (.float c tc), some (.float (max3F a b c) tM), some (.float (min3F a b c) tm), some (.float (Float64.add (max3F a b c) (min3F a b c)) k6), some (.float (Float64.sub (max3F a b c) (min3F a b c)) k7), some (.float (hlsL a b c) k9), some (.float (hlsS a b c) tk), none, none, none, none] [] h₉) (E := fun _ _ => False) ?first ?second (fun _ _ x => x.elim))
    case first =>
      refine wpAny_If (wpAny_isTrue_Compare1 (nm 7 V S rfl rfl (cf fun k10 t10 => leF (wpAny_truthy_bool ?_))))
      cases hle : (Float64.cmp (Float64.div (Float64.add (max3F a b c) (min3F a b c)) 0x4000000000000000) 0x3fe0000000000000 == some .lt || Float64.cmp (Float64.div (Float64.add (max3F a b c) (min3F a b c)) 0x4000000000000000) 0x3fe0000000000000 == some .eq) with
      | true =>
        rw [if_pos rfl]
        refine wpAny_execs_cons (wpAny_Assign_Name (wpAny_BinOp (nm 6 V S rfl rfl (nm 5 V S rfl rfl (divF hz4 fun k11 t11 => st 8 V S rfl rfl fun h₉ t₉ S => ?_)))))
        refine wpAny_execs_nil ⟨rfl, h₉, _, k11, rfl, ?_⟩
        have e : hlsS a b c = Float64.div (Float64.sub (max3F a b c) (min3F a b c)) (Float64.add (max3F a b c) (min3F a b c)) := if_pos hle
        rw [e]; exact S
      | false =>
        rw [if_neg Bool.false_ne_true]
        refine wpAny_execs_cons (wpAny_Assign_Name (wpAny_BinOp (nm 6 V S rfl rfl (wpAny_BinOp (wpAny_BinOp (cf fun k11 t11 => nm 3 V S rfl rfl (subF fun k12 t12 => nm 4 V S rfl rfl (subF fun k13 t13 => divF hz5 fun k14 t14 => st 8 V S rfl rfl fun h₉ t₉ S => ?_))))))))
        refine wpAny_execs_nil ⟨rfl, h₉, _, k14, rfl, ?_⟩
        have e : hlsS a b c = Float64.div (Float64.sub (max3F a b c) (min3F a b c)) (Float64.sub (Float64.sub 0x4000000000000000 (max3F a b c)) (min3F a b c)) := if_neg (by rw [hle]; exact Bool.false_ne_true)
        rw [e]; exact S
    case second =>
      rintro f s' ⟨rfl, h₉, t₉, k15, rfl, S⟩
      refine wpAny_execs_cons (wpAny_Assign_Name (wpAny_BinOp (wpAny_BinOp (nm 3 V S rfl rfl (nm 0 V S rfl rfl (subF fun k16 t16 => nm 6 V S rfl rfl (divF hz3 fun k17 t17 => st 9 V S rfl rfl fun h₁₀ t₁₀ S => ?_)))))))
      refine wpAny_execs_cons (wpAny_Assign_Name (wpAny_BinOp (wpAny_BinOp (nm 3 V S rfl rfl (nm 1 V S rfl rfl (subF fun k18 t18 => nm 6 V S rfl rfl (divF hz3 fun k19 t19 => st 10 V S rfl rfl fun h₁₁ t₁₁ S => ?_)))))))
      refine wpAny_execs_cons (wpAny_Assign_Name (wpAny_BinOp (wpAny_BinOp (nm 3 V S rfl rfl (nm 2 V S rfl rfl (subF fun k20 t20 => nm 6 V S rfl rfl (divF hz3 fun k21 t21 => st 11 V S rfl rfl fun h₁₂ t₁₂ S => ?_)))))))
      refine wpAny_execs_cons (wpAny_mono (Q := fun f s' => f = Flow.next ∧ ∃ (h₉ : Heap) (t₉ : Nat) (tk : Tok), s' = sh h₉ g d t₉ os ∧ Fm w h L ksH [some (.float a ta), some (.float b tb), some (.float c tc), some (.float (max3F a b c) tM), some (.float (min3F a b c) tm), some (.float (Float64.add (max3F a b c) (min3F a b c)) k6), some (.float (Float64.sub (max3F a b c) (min3F a b c)) k7), some (.float (hlsL a b c) k9), some (.float (hlsS a b c) k15), some (.float (Float64.div (Float64.sub (max3F a b c) a) (Float64.sub (max3F a b c) (min3F a b c))) k17), some (.float (Float64.div (Float64.sub (max3F a b c) b) (Float64.sub (max3F a b c) (min3F a b c))) k19), some (.float (Float64.div (Float64.sub (max3F a b c) c) (Float64.sub (max3F a b c) (min3F a b c))) k21), some (.float (hlsH0 a b c) tk)] [] h₉) (E := fun _ _ => False) ?first2 ?second2 (fun _ _ x => x.elim))
      case first2 =>
        refine wpAny_If (wpAny_isTrue_Compare1 (nm 0 V S rfl rfl (nm 3 V S rfl rfl (eqF (wpAny_truthy_bool ?_)))))
        cases hr : eqFb a (max3F a b c) with
        | true =>
          have hr' : (Float64.cmp a (max3F a b c) == some .eq) = true := hr
          rw [hr', if_pos rfl]
          refine wpAny_execs_cons (wpAny_Assign_Name (wpAny_BinOp (nm 11 V S rfl rfl (nm 10 V S rfl rfl (subF fun k22 t22 => st 12 V S rfl rfl fun h₁₃ t₁₃ S => ?_)))))
          refine wpAny_execs_nil ⟨rfl, h₁₃, _, k22, rfl, ?_⟩
          have e : hlsH0 a b c = Float64.sub (Float64.div (Float64.sub (max3F a b c) c) (Float64.sub (max3F a b c) (min3F a b c))) (Float64.div (Float64.sub (max3F a b c) b) (Float64.sub (max3F a b c) (min3F a b c))) := if_pos hr
          rw [e]; exact S
        | false =>
          have hr' : (Float64.cmp a (max3F a b c) == some .eq) = false := hr
          rw [hr', if_neg Bool.false_ne_true]
          refine wpAny_execs_cons (wpAny_If (wpAny_isTrue_Compare1 (nm 1 V S rfl rfl (nm 3 V S rfl rfl (eqF (wpAny_truthy_bool ?_))))))
          cases hg : eqFb b (max3F a b c) with
          | true =>
            have hg' : (Float64.cmp b (max3F a b c) == some .eq) = true := hg
            rw [hg', if_pos rfl]
            refine wpAny_execs_cons (wpAny_Assign_Name (wpAny_BinOp (wpAny_BinOp (cf fun k22 t22 => nm 9 V S rfl rfl (addF fun k23 t23 => nm 11 V S rfl rfl (subF fun k24 t24 => st 12 V S rfl rfl fun h₁₃ t₁₃ S => ?_))))))
            refine wpAny_execs_nil (wpAny_execs_nil ⟨rfl, h₁₃, _, k24, rfl, ?_⟩)
            have e : hlsH0 a b c = Float64.sub (Float64.add 0x4000000000000000 (Float64.div (Float64.sub (max3F a b c) a) (Float64.sub (max3F a b c) (min3F a b c)))) (Float64.div (Float64.sub (max3F a b c) c) (Float64.sub (max3F a b c) (min3F a b c))) := (if_neg (by rw [hr]; exact Bool.false_ne_true)).trans (if_pos hg)
            rw [e]; exact S
          | false =>
            have hg' : (Float64.cmp b (max3F a b c) == some .eq) = false := hg
            rw [hg', if_neg Bool.false_ne_true]
            refine wpAny_execs_cons (wpAny_Assign_Name (wpAny_BinOp (wpAny_BinOp (cf fun k22 t22 => nm 10 V S rfl rfl (addF fun k23 t23 => nm 9 V S rfl rfl (subF fun k24 t24 => st 12 V S rfl rfl fun h₁₃ t₁₃ S => ?_))))))
            refine wpAny_execs_nil (wpAny_execs_nil ⟨rfl, h₁₃, _, k24, rfl, ?_⟩)
            have e : hlsH0 a b c = Float64.sub (Float64.add 0x4010000000000000 (Float64.div (Float64.sub (max3F a b c) b) (Float64.sub (max3F a b c) (min3F a b c)))) (Float64.div (Float64.sub (max3F a b c) a) (Float64.sub (max3F a b c) (min3F a b c))) := (if_neg (by rw [hr]; exact Bool.false_ne_true)).trans (if_neg (by rw [hg]; exact Bool.false_ne_true))
            rw [e]; exact S
      case second2 =>
        rintro f s' ⟨rfl, h₁₃, t₁₃, k25, rfl, S⟩
        refine wpAny_execs_cons (wpAny_Assign_Name (wpAny_BinOp (wpAny_BinOp (nm 12 V S rfl rfl (cf fun k26 t26 => divF (by decide +kernel) fun k27 t27 => cf fun k28 t28 => modF (by decide +kernel) fun k29 t29 => st 12 V S rfl rfl fun h₁₄ t₁₄ S => ?_)))))
        refine wpAny_execs_cons (wpAny_Return_some (Tuple_ (spliced_more (nm 12 V S rfl rfl (spliced_more (nm 7 V S rfl rfl (spliced_more (nm 8 V S rfl rfl (spliced_none (mkTup ?_ (three _ _ _)))))))))))
        refine hq _ _ _ k29 k9 k15 (S.keep.trans (Keep.push _ _)) ((Heap.get?_push_size _ rfl).trans ?_) (none_ S.keep)
        unfold hlsC
        rw [he, if_neg Bool.false_ne_true]
end Mine
end
section
open PySem PySem.W PySem.W.X PyProof.Rows PySem.Calls
set_option maxRecDepth 100000
set_option maxHeartbeats 2000000
namespace Mine
open PySem.Flt
def rdX (n : Int) (x : UInt64) : UInt64 := Float64.mul (Float64.ofInt n) x
def rdY (x : UInt64) (n : Int) : UInt64 := Float64.mul x (Float64.ofInt n)
def rdI (x : UInt64) : Int := toInt Float64.nearestOf x
def rdRoom (both : Int) : Int := if 32 - both < both then 32 - both else both
def rdApart (hue light share : UInt64) (both room spread place : Int) : UInt64 :=
  max3F (Float64.abs (Float64.sub (rdX 32 light) (Float64.ofInt both))) (Float64.abs (Float64.sub (rdY share room) (Float64.ofInt spread))) (Float64.abs (Float64.sub (rdX (6 * spread) hue) (Float64.ofInt place)))
def absI (a : Int) : Int := if a < 0 then -a else a
def rdWay (spread place : Int) (lamp : Int) : Int := absI ((place - 2 * spread * lamp + 3 * spread).fmod (6 * spread) - 3 * spread)
def rdLevel (low spread place lamp : Int) : Int :=
  low + (let m := if 0 < 2 * spread - rdWay spread place lamp then 2 * spread - rdWay spread place lamp else 0; if m < spread then m else spread)
/-- what _law_read tells, with the checks that it passes -/
structure Rd (hue light share : UInt64) (both spread place : Int) : Prop where
  f1 : Float64.isFinite (rdX 32 light) = true
  e1 : rdI (rdX 32 light) = both
  f2 : Float64.isFinite (rdY share (rdRoom both)) = true
  e2 : rdI (rdY share (rdRoom both)) = spread
  f3 : Float64.isFinite (rdX (6 * spread) hue) = true
  e3 : rdI (rdX (6 * spread) hue) = place
  b1 : both.natAbs ≤ 1000
  b2 : spread.natAbs ≤ 1000
  b3 : place.natAbs ≤ 100000
  c1 : (Float64.cmpInt (Float64.mul (rdApart hue light share both (rdRoom both) spread place) (Float64.ofInt 1000000000)) 1 == some Ordering.gt) = false
  c2 : (Float64.cmpInt hue 0 == some Ordering.gt || Float64.cmpInt hue 0 == some Ordering.eq) = true
  c3 : (Float64.cmpInt hue 1 == some Ordering.lt) = true
  c4 : spread = 0 → (Float64.cmpInt hue 0 != some Ordering.eq) = false ∧ (Float64.cmpInt share 0 != some Ordering.eq) = false
def rdList (both spread place : Int) : List Int :=
  let low := (both - spread).fdiv 2
  if spread = 0 then [low, low, low] else [rdLevel low spread place 0, rdLevel low spread place 1, rdLevel low spread place 2]
theorem natfits {n : Int} (h : n.natAbs ≤ 1000000) : n.natAbs < 2 ^ 1023 := Nat.lt_of_le_of_lt h (by decide +kernel)
section
variable {w : World} {A : Around} {E : Value → Shared → Prop} {h₀ h : Heap} {env : Env} {L : Addr} {ks gs : List Str} {vs : List (Option Value)} {σ : List Reg} {g : Array GenState} {d : Drawn} {t : Nat} {os : OsState} {Q : Value → Shared → Prop} {x y : UInt64} {tx tn : Tok} {n : Int}
theorem mulIF (hn : n.natAbs ≤ 1000000) (hq : ∀ tk t', Q (.float (Float64.mul (Float64.ofInt n) x) tk) (sh h g d t' os)) : wpAny (Md w) A (binaryOp .Mult (.int n tn) (.float x tx)) Q E (sh h g d t os) := PyProof.Rows.mul_if_fits (natfits hn) (hq _ _)
theorem mulFI (hn : n.natAbs ≤ 1000000) (hq : ∀ tk t', Q (.float (Float64.mul x (Float64.ofInt n)) tk) (sh h g d t' os)) : wpAny (Md w) A (binaryOp .Mult (.float x tx) (.int n tn)) Q E (sh h g d t os) := PyProof.Rows.mul_fi_fits (natfits hn) (hq _ _)
theorem subFI (hn : n.natAbs ≤ 1000000) (hq : ∀ tk t', Q (.float (Float64.sub x (Float64.ofInt n)) tk) (sh h g d t' os)) : wpAny (Md w) A (binaryOp .Sub (.float x tx) (.int n tn)) Q E (sh h g d t os) := PyProof.Rows.sub_fi_fits (natfits hn) (hq _ _)
theorem roundF (hh : A.handled = none) (hf : Float64.isFinite x = true) (hq : ∀ tk t', Q (.int (rdI x) tk) (sh h g d t' os)) : wpAny (Md w) A (call (.builtin "round") [.float x tx]) Q E (sh h g d t os) :=
  call_round_float hh (fun c => by
    exfalso
    unfold Float64.isFinite at hf
    unfold Float64.isNaN at c
    split at c
    · rename_i e
      rw [e] at hf; cases hf
    · cases c) (fun c => by
    exfalso
    unfold Float64.isFinite at hf
    unfold Float64.isInf at c
    split at c
    · rename_i e
      rw [e] at hf; cases hf
    · cases c) (fun _ => hq _ _)
theorem absF (hq : ∀ tk t', Q (.float (Float64.abs x) tk) (sh h g d t' os)) : wpAny (Md w) A (call (.builtin "abs") [.float x tx]) Q E (sh h g d t os) := call_abs_float (hq _ _)
theorem absInt (hq : ∀ tk t', Q (.int (absI n) tk) (sh h g d t' os)) : wpAny (Md w) A (call (.builtin "abs") [.int n tn]) Q E (sh h g d t os) := call_abs_int fun u tk => hq _ _
theorem min2I {a b : Int} {ta tb : Tok} (hh : A.handled = none) (hq : ∀ h' tk t', Keep h h' → Q (.int (if b < a then b else a) tk) (sh h' g d t' os)) : wpAny (Md w) A (call (.builtin "min") [.int a ta, .int b tb]) Q E (sh h g d t os) :=
  min_two_num hh (.int a ta) (.int b tb) fun h' tk k => by
    have h1 := hq h' tb tk k
    have h2 := hq h' ta tk k
    show Q (if decide (b < a) = true then Value.int b tb else .int a ta) _
    by_cases c : b < a
    · rw [if_pos (by simpa using c)]; rw [if_pos c] at h1; exact h1
    · rw [if_neg (by simpa using c)]; rw [if_neg c] at h2; exact h2
theorem max2I {a b : Int} {ta tb : Tok} (hh : A.handled = none) (hq : ∀ h' tk t', Keep h h' → Q (.int (if a < b then b else a) tk) (sh h' g d t' os)) : wpAny (Md w) A (call (.builtin "max") [.int a ta, .int b tb]) Q E (sh h g d t os) :=
  max_two_num hh (.int a ta) (.int b tb) fun h' tk k => by
    have h1 := hq h' tb tk k
    have h2 := hq h' ta tk k
    show Q (if decide (a < b) = true then Value.int b tb else .int a ta) _
    by_cases c : a < b
    · rw [if_pos (by simpa using c)]; rw [if_pos c] at h1; exact h1
    · rw [if_neg (by simpa using c)]; rw [if_neg c] at h2; exact h2
end
theorem small3 : ∀ i, i < 3 → Builtin.Int.intBits (0 + (i : Nat)) ≤ 64
  | 0, _ => by decide +kernel
  | 1, _ => by decide +kernel
  | 2, _ => by decide +kernel
theorem hsz3 (l : List Value) (h : l.length ≤ 3) : l.toArray.size ≤ sizeLine := by rw [sizeLine_eq]; simp; omega
theorem hlen3 {f : Nat → Int} (i : Nat) (l : List Value) (hi : i < 3) (h : IntsAre l ((List.range i).map f)) : l.length ≤ 3 := by
  have := h.length
  simp at this; omega
abbrev ksR : List Str := [Str.ofString "hue", Str.ofString "light", Str.ofString "share", Str.ofString "both", Str.ofString "room", Str.ofString "spread", Str.ofString "place", Str.ofString "apart", Str.ofString "low", Str.ofString "levels", Str.ofString "lamp", Str.ofString "way"]
theorem readCall {w : World} {k : Nat} {A : Around} {E : Value → Shared → Prop} {Q : Value → Shared → Prop} {h : Heap} {g : Array GenState} {d : Drawn} {t : Nat} {os : OsState} (o : Ok (k + 4) A) (T : Tp w h) {hue light share : UInt64} {t1 t2 t3 : Tok} {both spread place : Int} (R : Rd hue light share both spread place)
    (hq : ∀ D l h' t', Keep h h' → h'.PlainList D l.toArray → IntsAre l (rdList both spread place) → h.get? D = none → Q (.ref D) (sh h' g d t' os)) :
    wpAny (Md w) A (call (.ref 233) [.float hue t1, .float light t2, .float share t3]) Q E (sh h g d t os) := by
  refine' enter (k := k + 3) o T ?ho ?hcd [Str.ofString "hue", Str.ofString "light", Str.ofString "share"] [Str.ofString "both", Str.ofString "room", Str.ofString "spread", Str.ofString "place", Str.ofString "apart", Str.ofString "low", Str.ofString "levels", Str.ofString "lamp", Str.ofString "way"] [Str.ofString "round", Str.ofString "min", Str.ofString "max", Str.ofString "abs", Str.ofString "range"] ?hsc ?hb ?hl ?_
  case ho => exact rfl
  case hcd => exact rfl
  case hsc => decide +kernel
  case hb => exact rfl
  case hl => exact rfl
  intro L h₁ t₁ env V S o₁
  have b1 := R.b1
  have b2 := R.b2
  have b3 := R.b3
  have hroom : (rdRoom both).natAbs ≤ 1000000 := by unfold rdRoom; split <;> omega
  have mulL : ∀ {a b : Int}, Builtin.Int.intBits a ≤ 64 → IntMulOk a b := fun h => IntMulOk.of_left h
  have h6 : Builtin.Int.intBits 6 ≤ 64 := by decide +kernel
  have h2 : Builtin.Int.intBits 2 ≤ 64 := by decide +kernel
  have h3 : Builtin.Int.intBits 3 ≤ 64 := by decide +kernel
  -- both
  refine wpAny_execs_cons (wpAny_Assign_Name (Call_Name1 (bi (v := .builtin "round") V S.tp (by decide) (by rfl) (by rfl) (by decide) (PySem.callWith_builtin1 (wpAny_BinOp (ci fun k1 t4 => nm 1 V S rfl rfl (mulIF (by decide) fun k2 t5 => roundF o₁.hd R.f1 fun k3 t6 => ?_)))))))
  have e1 : rdI (Float64.mul (Float64.ofInt 32) light) = both := R.e1
  rw [e1]
  refine st 3 V S rfl rfl fun h₂ t₂ S => ?_
  -- room
  refine wpAny_execs_cons (wpAny_Assign_Name (Call_ (bi (v := .builtin "min") V S.tp (by decide) (by rfl) (by rfl) (by decide) (PyProof.Rows.callWith_builtin1 (spliced_more (nm 3 V S rfl rfl (spliced_more (wpAny_BinOp (ci fun k4 t7 => nm 3 V S rfl rfl (subI fun k5 t8 => spliced_none (min2I o₁.hd fun h₃ k6 t9 k₃ => ?_)))))))))))
  have S := S.kept k₃
  refine st 4 V S rfl rfl fun h₄ t₄ S => ?_
  have e0 : (if 32 - both < both then 32 - both else both) = rdRoom both := rfl
  rw [e0] at S
  -- spread
  refine wpAny_execs_cons (wpAny_Assign_Name (Call_Name1 (bi (v := .builtin "round") V S.tp (by decide) (by rfl) (by rfl) (by decide) (PySem.callWith_builtin1 (wpAny_BinOp (nm 2 V S rfl rfl (nm 4 V S rfl rfl (mulFI hroom fun k7 t10 => roundF o₁.hd R.f2 fun k8 t11 => ?_))))))))
  have e2 : rdI (Float64.mul share (Float64.ofInt (rdRoom both))) = spread := R.e2
  rw [e2]
  refine st 5 V S rfl rfl fun h₅ t₅ S => ?_
  -- place
  have h6s : (6 * spread).natAbs ≤ 1000000 := by omega
  refine wpAny_execs_cons (wpAny_Assign_Name (Call_Name1 (bi (v := .builtin "round") V S.tp (by decide) (by rfl) (by rfl) (by decide) (PySem.callWith_builtin1 (wpAny_BinOp (wpAny_BinOp (ci fun k9 t12 => nm 5 V S rfl rfl (mulI (mulL h6) fun k10 t13 => nm 0 V S rfl rfl (mulIF h6s fun k11 t14 => roundF o₁.hd R.f3 fun k12 t15 => ?_)))))))))
  have e3 : rdI (Float64.mul (Float64.ofInt (6 * spread)) hue) = place := R.e3
  rw [e3]
  refine st 6 V S rfl rfl fun h₆ t₆ S => ?_
  -- apart
  refine wpAny_execs_cons (wpAny_Assign_Name (Call_ (bi (v := .builtin "max") V S.tp (by decide) (by rfl) (by rfl) (by decide) (PyProof.Rows.callWith_builtin1 (spliced_more (Call_Name1 (bi (v := .builtin "abs") V S.tp (by decide) (by rfl) (by rfl) (by decide) (PySem.callWith_builtin1 (wpAny_BinOp (wpAny_BinOp (ci fun k13 t16 => nm 1 V S rfl rfl (mulIF (by decide) fun k14 t17 => nm 3 V S rfl rfl (subFI (by omega) fun k15 t18 => absF fun k16 t19 => ?_)))))))))))))
  refine spliced_more (Call_Name1 (bi (v := .builtin "abs") V S.tp (by decide) (by rfl) (by rfl) (by decide) (PySem.callWith_builtin1 (wpAny_BinOp (wpAny_BinOp (nm 2 V S rfl rfl (nm 4 V S rfl rfl (mulFI hroom fun k17 t20 => nm 5 V S rfl rfl (subFI (by omega) fun k18 t21 => absF fun k19 t22 => ?_)))))))))
  refine spliced_more (Call_Name1 (bi (v := .builtin "abs") V S.tp (by decide) (by rfl) (by rfl) (by decide) (PySem.callWith_builtin1 (wpAny_BinOp (wpAny_BinOp (wpAny_BinOp (ci fun k20 t23 => nm 5 V S rfl rfl (mulI (mulL h6) fun k21 t24 => nm 0 V S rfl rfl (mulIF h6s fun k22 t25 => nm 6 V S rfl rfl (subFI (by omega) fun k23 t26 => absF fun k24 t27 => ?_))))))))))
  refine spliced_none (max3 o₁.hd (.float _ _) (.float _ _) (.float _ _) fun h₇ t₇ k₇ => ?_)
  obtain ⟨tM, hM⟩ := maxV_f (Float64.abs (Float64.sub (rdX 32 light) (Float64.ofInt both))) (Float64.abs (Float64.sub (rdY share (rdRoom both)) (Float64.ofInt spread))) (Float64.abs (Float64.sub (rdX (6 * spread) hue) (Float64.ofInt place))) k16 k19 k24
  have S := S.kept k₇
  show wpAny _ _ (storeName env _ (maxV (.float (Float64.abs (Float64.sub (rdX 32 light) (Float64.ofInt both))) k16) (.float (Float64.abs (Float64.sub (rdY share (rdRoom both)) (Float64.ofInt spread))) k19) (.float (Float64.abs (Float64.sub (rdX (6 * spread) hue) (Float64.ofInt place))) k24))) _ _ _
  rw [hM]
  refine st 7 V S rfl rfl fun h₈ t₈ S => ?_
  -- the checks
  refine wpAny_execs_cons (wpAny_mono (Q := fun f s' => f = Flow.next ∧ ∃ t', s' = sh h₈ g d t' os) (E := fun _ _ => False) ?chk ?rest (fun _ _ x => x.elim))
  case chk =>
    refine wpAny_If (isTrue_or (wpAny_isTrue_Compare1 (wpAny_BinOp (nm 7 V S rfl rfl (wpAny_BinOp (ci fun k25 t28 => ci fun k26 t29 => pow_int (by decide) (by decide +kernel) ?_))))))
    have hp9 : (10 : Int) ^ (9 : Int).toNat = 1000000000 := by decide
    rw [hp9]
    refine PyProof.Rows.mul_fi_fits (by decide +kernel) (ci fun k27 t30 => gt_fi (wpAny_truthy_bool ?_))
    change (if (Float64.cmpInt (Float64.mul (rdApart hue light share both (rdRoom both) spread place) (Float64.ofInt 1000000000)) 1 == some Ordering.gt) = true then _ else _)
    rw [R.c1, if_neg Bool.false_ne_true]
    refine isTrue_or (isTrue_not (isTrue_chain (ci fun k28 t31 => test_link (nm 0 V S rfl rfl (le_if (wpAny_truthy_bool ?_))))))
    rw [R.c2, if_pos rfl]
    refine test_last (ci fun k29 t32 => lt_fi (wpAny_truthy_bool ?_))
    rw [R.c3]
    rw [if_neg (by decide)]
    refine isTrue_or (isTrue_and (wpAny_isTrue_Compare1 (nm 5 V S rfl rfl (ci fun k30 t33 => eqI (wpAny_truthy_bool ?_)))))
    by_cases hs : spread = 0
    · have hb : (spread == 0) = true := by simpa using hs
      rw [hb, if_pos rfl]
      obtain ⟨c4, c5⟩ := R.c4 hs
      refine isTrue_and (isTrue_or (wpAny_isTrue_Compare1 (nm 0 V S rfl rfl (ci fun k31 t34 => ne_fi (wpAny_truthy_bool ?_)))))
      rw [c4, if_neg Bool.false_ne_true]
      refine isTrue_or (wpAny_isTrue_Compare1 (nm 2 V S rfl rfl (ci fun k32 t35 => ne_fi (wpAny_truthy_bool ?_))))
      rw [c5, if_neg Bool.false_ne_true]
      refine isTrue_or_nil ?_
      rw [if_neg Bool.false_ne_true, if_neg Bool.false_ne_true]
      refine isTrue_or_nil ?_
      rw [if_neg Bool.false_ne_true]
      exact wpAny_execs_nil ⟨rfl, _, rfl⟩
    · have hb : (spread == 0) = false := by simpa using hs
      rw [hb, if_neg Bool.false_ne_true, if_neg Bool.false_ne_true]
      refine isTrue_or_nil ?_
      rw [if_neg Bool.false_ne_true]
      exact wpAny_execs_nil ⟨rfl, _, rfl⟩
  case rest =>
    rintro f s' ⟨rfl, t40, rfl⟩
    refine wpAny_execs_cons (wpAny_Assign_Name (wpAny_BinOp (wpAny_BinOp (nm 3 V S rfl rfl (nm 5 V S rfl rfl (subI fun k33 t36 => ci fun k34 t37 => divI (by decide) (PyProof.noPylong_small (by decide)) fun k35 t38 => st 8 V S rfl rfl fun h₉ t₉ S => ?_))))))
    refine wpAny_execs_cons (wpAny_If (wpAny_isTrue_Compare1 (nm 5 V S rfl rfl (ci fun k36 t39 => eqI (wpAny_truthy_bool ?_)))))
    have none_ : ∀ {h' : Heap}, Keep h h' → h.get? h'.objs.size = none := fun {h'} kp => by
      cases q : h.get? h'.objs.size with
      | none => rfl
      | some o => exact absurd (Heap.lt_size (kp _ _ q)) (Nat.lt_irrefl _)
    by_cases hs : spread = 0
    · have hb : (spread == 0) = true := by simpa using hs
      rw [hb, if_pos rfl]
      refine wpAny_execs_cons (wpAny_Return_some (List_ (spliced_more (nm 8 V S rfl rfl (spliced_more (nm 8 V S rfl rfl (spliced_more (nm 8 V S rfl rfl (spliced_none (newL (by rw [sizeLine_eq]; exact (by decide : 3 ≤ 16777216)) ?_))))))))))
      refine hq _ _ _ _ (S.keep.trans (Keep.push _ _)) (plain_push _ _) ?_ (none_ S.keep)
      unfold rdList
      rw [if_pos hs]
      exact .cons _ _ (.cons _ _ (.cons _ _ .nil))
    · have hb : (spread == 0) = false := by simpa using hs
      rw [hb, if_neg Bool.false_ne_true]
      refine wpAny_execs_nil ?_
      refine wpAny_execs_cons (wpAny_Assign_Name (List_ (spliced_none (newL (Nat.zero_le _) ?_))))
      have S := S.add (Keep.push h₉ _) (rP h₉.objs.size #[]) (plain_push h₉ _) (fun b hb => by rw [List.mem_singleton.mp hb]; exact fresh_size h₉)
      generalize h₉.objs.size = D at S ⊢
      refine st 9 V S rfl rfl fun h₁₀ t₁₀ S => ?_
      refine wpAny_execs_cons (wpAny_For (Call_Name1 (bi (v := .type "range") V S.tp (by decide) (by rfl) (by rfl) (by decide) (PySem.callWith_type1 (ci fun k37 t41 => call_range_1 ?_)))))
      have h6n : 6 * spread ≠ 0 := by omega
      have hloop : ∀ (i : Nat) (l : List Value), IntsAre l ((List.range i).map fun j => rdLevel ((both - spread).fdiv 2) spread place ((j : Nat) : Int)) → ∀ (v : Value) (tk : Tok), v = .int (rdLevel ((both - spread).fdiv 2) spread place ((i : Nat) : Int)) tk → IntsAre (l ++ [v]) ((List.range (i + 1)).map fun j => rdLevel ((both - spread).fdiv 2) spread place ((j : Nat) : Int)) := by
        rintro i l hl v tk rfl
        rw [List.range_succ, List.map_append]
        exact hl.append (.cons _ _ .nil)
      refine forRange (a := 0) (b := 3) (n := 3) o₁.hd (by decide) (by decide +kernel) (fun i vs σ g' => g' = g ∧ ∃ (l : List Value) (lv wv : Option Value), vs = [some (.float hue t1), some (.float light t2), some (.float share t3), some (.int both k3), some (.int (rdRoom both) k6), some (.int spread k8), some (.int place k12), some (.float (rdApart hue light share both (rdRoom both) spread place) tM), some (.int ((both - spread).fdiv 2) k35), some (.ref D), lv, wv] ∧ σ = [rP D l.toArray] ∧ IntsAre l ((List.range i).map fun j => rdLevel ((both - spread).fdiv 2) spread place ((j : Nat) : Int)))
        ?_ ?_ (S.kept (Keep.push _ _)) ⟨rfl, [], none, none, rfl, rfl, .nil⟩ (IsRange.new ..)
      · rintro I i tk vs σ g' h' t' hi ⟨rfl, l, lv, wv, rfl, rfl, hil⟩ S
        refine wpAny_pure (wpAny_assign_Name (st 10 V S rfl rfl fun h₁₁ t₁₁ S => ?_))
        refine wpAny_execs_cons (wpAny_Assign_Name (Call_Name1 (bi (v := .builtin "abs") V S.tp (by decide) (by rfl) (by rfl) (by decide) (PySem.callWith_builtin1 (wpAny_BinOp (wpAny_BinOp (wpAny_BinOp (wpAny_BinOp (nm 6 V S rfl rfl (wpAny_BinOp (wpAny_BinOp (ci fun k40 t42 => nm 5 V S rfl rfl (mulI (mulL h2) fun k41 t43 => nm 10 V S rfl rfl (mulI (IntMulOk.of_right (small3 i hi)) fun k42 t44 => subI fun k43 t45 => wpAny_BinOp (ci fun k44 t46 => nm 5 V S rfl rfl (mulI (mulL h3) fun k45 t47 => addI fun k46 t48 => wpAny_BinOp (ci fun k47 t49 => nm 5 V S rfl rfl (mulI (mulL h6) fun k48 t50 => modI h6n fun k49 t51 => wpAny_BinOp (ci fun k50 t52 => nm 5 V S rfl rfl (mulI (mulL h3) fun k51 t53 => subI fun k52 t54 => absInt fun k53 t55 => ?_))))))))))))))))))))
        refine st 11 V S rfl rfl fun h₁₂ t₁₂ S => ?_
        have hl3 : l.length ≤ 3 := hlen3 i l hi hil
        refine wpAny_execs_cons (wpAny_Expr (app1 rfl rfl rfl (hsz3 l hl3) (fun Q' q => nm 9 V S rfl rfl q) (S.at 1 rfl) ?_) V.inter)
        refine wpAny_BinOp (nm 8 V S rfl rfl (Call_ (bi (v := .builtin "min") V S.tp (by decide) (by rfl) (by rfl) (by decide) (PyProof.Rows.callWith_builtin1 (spliced_more (nm 5 V S rfl rfl (spliced_more ?_)))))))
        refine Call_ (bi (v := .builtin "max") V S.tp (by decide) (by rfl) (by rfl) (by decide) (PyProof.Rows.callWith_builtin1 (spliced_more (ci fun k54 t56 => spliced_more ?_))))
        refine wpAny_BinOp (wpAny_BinOp (ci fun k55 t57 => nm 5 V S rfl rfl (mulI (mulL h2) fun k56 t58 => nm 11 V S rfl rfl (subI fun k57 t59 => spliced_none (max2I o₁.hd fun h₁₃ k58 t60 k₁₃ => ?_)))))
        refine spliced_none (min2I o₁.hd fun h₁₄ k59 t61 k₁₄ => addI fun k60 t62 => ?_)
        have S := (S.kept k₁₃).kept k₁₄
        refine ⟨S.at 1 rfl, fun h' hl' hx' => ?_⟩
        refine wpAny_execs_nil ?_
        have S9 := S.put 1 rfl (rP D (l ++ [Value.int (rdLevel ((both - spread).fdiv 2) spread place ((i : Nat) : Int)) k60]).toArray) (h' := h') (fun b o hb e => hx' b o (fun q => hb (by rw [q]; exact List.mem_singleton.mpr rfl)) e) (by
          have e : (l ++ [Value.int (rdLevel ((both - spread).fdiv 2) spread place ((i : Nat) : Int)) k60]).toArray = l.toArray.push (Value.int (rdLevel ((both - spread).fdiv 2) spread place ((i : Nat) : Int)) k60) := by simp
          have e2 : rdLevel ((both - spread).fdiv 2) spread place (0 + ((i : Nat) : Int)) = rdLevel ((both - spread).fdiv 2) spread place ((i : Nat) : Int) := by rw [Int.zero_add]
          show Heap.PlainList h' D _
          rw [e, ← e2]; exact hl') (fun b hb => .inl hb)
        exact ⟨h', g', _, _, _, rfl, S9, rfl, _, _, _, rfl, rfl, hloop i l hil _ k60 rfl⟩
      · rintro h' g' t' vs σ ⟨rfl, l, lv, wv, rfl, rfl, hil⟩ S
        refine wpAny_execs_cons (wpAny_Return_some (nm 9 V S rfl rfl ?_))
        refine hq D l h' t' S.keep (S.at 0 rfl) ?_ ((S.led 0 _ rfl).2 D (List.mem_singleton.mpr rfl)).2
        unfold rdList
        rw [if_neg hs]
        exact hil
end Mine
end
section
open PySem PySem.W PySem.W.X PyProof.Rows PySem.Calls
set_option maxRecDepth 100000
set_option maxHeartbeats 2000000
namespace Mine
open PySem.Flt
def lamp (n : Nat) : UInt64 := Float64.ofFrac false n 16
/-- the whole check of a light that is read: k is 2 where the lightness is halved, else 1 -/
def rdB (hue light share : UInt64) (both spread place : Int) : Bool :=
  Float64.isFinite (rdX 32 light) && (rdI (rdX 32 light) == both) && Float64.isFinite (rdY share (rdRoom both)) && (rdI (rdY share (rdRoom both)) == spread) &&
  Float64.isFinite (rdX (6 * spread) hue) && (rdI (rdX (6 * spread) hue) == place) && decide (both.natAbs ≤ 1000) && decide (spread.natAbs ≤ 1000) && decide (place.natAbs ≤ 100000) &&
  !(Float64.cmpInt (Float64.mul (rdApart hue light share both (rdRoom both) spread place) (Float64.ofInt 1000000000)) 1 == some Ordering.gt) &&
  (Float64.cmpInt hue 0 == some Ordering.gt || Float64.cmpInt hue 0 == some Ordering.eq) && (Float64.cmpInt hue 1 == some Ordering.lt) &&
  (spread != 0 || (Float64.cmpInt hue 0 == some Ordering.eq && Float64.cmpInt share 0 == some Ordering.eq))
def goodT (x y z : Nat) : Bool :=
  let c := hlsC (lamp x) (lamp y) (lamp z)
  let both := rdI (rdX 32 c.2.1); let spread := rdI (rdY c.2.2 (rdRoom both)); let place := rdI (rdX (6 * spread) c.1)
  hlsOk (lamp x) (lamp y) (lamp z) && rdB c.1 c.2.1 c.2.2 both spread place && (rdList both spread place == [(x : Int), y, z])
def halfF (x : UInt64) : UInt64 := Float64.div x (Float64.ofInt 2)
def goodW (x y z : Nat) : Bool :=
  let c := hlsC (lamp (2 * x)) (lamp (2 * y)) (lamp (2 * z))
  let l := halfF c.2.1
  let both := rdI (rdX 32 l); let spread := rdI (rdY c.2.2 (rdRoom both)); let place := rdI (rdX (6 * spread) c.1)
  hlsOk (lamp (2 * x)) (lamp (2 * y)) (lamp (2 * z)) && rdB c.1 l c.2.2 both spread place && (rdList both spread place == [(x : Int), y, z])
theorem goodT_all : (List.range 5).all (fun x => (List.range 5).all fun y => (List.range 5).all fun z => (x + y + z != 3 && x + y + z != 4 && x + y + z != 8 && x + y + z != 9) || goodT (6 + x) (6 + y) (6 + z)) = true := by decide +kernel
theorem goodW_all : (List.range 5).all (fun x => (List.range 5).all fun y => (List.range 5).all fun z => x + y + z != 3 && x + y + z != 4 || goodW x y z) = true := by decide +kernel
theorem Rd.ofB {hue light share : UInt64} {both spread place : Int} (h : rdB hue light share both spread place = true) : Rd hue light share both spread place := by
  unfold rdB at h
  simp only [Bool.and_eq_true, Bool.or_eq_true, Bool.not_eq_true', beq_iff_eq, decide_eq_true_eq, bne_iff_ne, ne_eq] at h
  obtain ⟨⟨⟨⟨⟨⟨⟨⟨⟨⟨⟨⟨h1, h2⟩, h3⟩, h4⟩, h5⟩, h6⟩, h7⟩, h8⟩, h9⟩, h10⟩, h11⟩, h12⟩, h13⟩ := h
  refine ⟨h1, h2, h3, h4, h5, h6, h7, h8, h9, h10, ?_, ?_, fun hs => ?_⟩
  · rcases h11 with h | h <;> simp [h]
  · simp [h12]
  · rcases h13 with h | ⟨h, h'⟩
    · exact absurd hs h
    · simp [h, h']
/-- a light of so many sixteenths is read again -/
theorem light_back {x y z : Nat} (hx : 6 ≤ x ∧ x ≤ 10) (hy : 6 ≤ y ∧ y ≤ 10) (hz : 6 ≤ z ∧ z ≤ 10) (hs : x + y + z = 21 ∨ x + y + z = 22 ∨ x + y + z = 26 ∨ x + y + z = 27) : hlsOk (lamp x) (lamp y) (lamp z) = true ∧
    ∃ both spread place, Rd (hlsC (lamp x) (lamp y) (lamp z)).1 (hlsC (lamp x) (lamp y) (lamp z)).2.1 (hlsC (lamp x) (lamp y) (lamp z)).2.2 both spread place ∧ rdList both spread place = [(x : Int), y, z] := by
  have h := goodT_all
  have h1 := List.all_eq_true.mp h (x - 6) (List.mem_range.mpr (by omega))
  have h2 := List.all_eq_true.mp h1 (y - 6) (List.mem_range.mpr (by omega))
  have h3 := List.all_eq_true.mp h2 (z - 6) (List.mem_range.mpr (by omega))
  have hb : (x - 6 + (y - 6) + (z - 6) != 3 && x - 6 + (y - 6) + (z - 6) != 4 && x - 6 + (y - 6) + (z - 6) != 8 && x - 6 + (y - 6) + (z - 6) != 9) = false := by
    have : x - 6 + (y - 6) + (z - 6) = 3 ∨ x - 6 + (y - 6) + (z - 6) = 4 ∨ x - 6 + (y - 6) + (z - 6) = 8 ∨ x - 6 + (y - 6) + (z - 6) = 9 := by omega
    rcases this with h | h | h | h <;> rw [h] <;> rfl
  rw [hb, Bool.false_or, show 6 + (x - 6) = x by omega, show 6 + (y - 6) = y by omega, show 6 + (z - 6) = z by omega] at h3
  unfold goodT at h3
  simp only [Bool.and_eq_true, beq_iff_eq] at h3
  exact ⟨h3.1.1, _, _, _, Rd.ofB h3.1.2, h3.2⟩
theorem half_back {x y z : Nat} (h : x + y + z = 3 ∨ x + y + z = 4) : hlsOk (lamp (2 * x)) (lamp (2 * y)) (lamp (2 * z)) = true ∧
    ∃ both spread place, Rd (hlsC (lamp (2 * x)) (lamp (2 * y)) (lamp (2 * z))).1 (halfF (hlsC (lamp (2 * x)) (lamp (2 * y)) (lamp (2 * z))).2.1) (hlsC (lamp (2 * x)) (lamp (2 * y)) (lamp (2 * z))).2.2 both spread place ∧ rdList both spread place = [(x : Int), y, z] := by
  have h0 := goodW_all
  have h1 := List.all_eq_true.mp h0 x (List.mem_range.mpr (by omega))
  have h2 := List.all_eq_true.mp h1 y (List.mem_range.mpr (by omega))
  have h3 := List.all_eq_true.mp h2 z (List.mem_range.mpr (by omega))
  have hb : (x + y + z != 3 && x + y + z != 4) = false := by rcases h with h | h <;> simp [h]
  rw [hb, Bool.false_or] at h3
  unfold goodW at h3
  simp only [Bool.and_eq_true, beq_iff_eq] at h3
  exact ⟨h3.1.1, _, _, _, Rd.ofB h3.1.2, h3.2⟩
/-- n / 16 -/
theorem div16 {w : World} {A : Around} {E : Value → Shared → Prop} {h : Heap} {g : Array GenState} {d : Drawn} {t : Nat} {os : OsState} {Q : Value → Shared → Prop} {n : Nat} {tn tk : Tok} (hn : n ≤ 10) (hq : ∀ tk t', Q (.float (lamp n) tk) (sh h g d t' os)) :
    wpAny (Md w) A (binaryOp .Div (.int (n : Int) tn) (.int 16 tk)) Q E (sh h g d t os) := by
  have hi : ∀ n, n ≤ 10 → Float64.isInf (lamp n) = false := by
    have : (List.range 11).all (fun n => !Float64.isInf (lamp n)) = true := by decide +kernel
    intro n hn
    have := List.all_eq_true.mp this n (List.mem_range.mpr (by omega))
    simpa using this
  have e : Float64.ofFrac (decide ((n : Int) < 0) != decide ((16 : Int) < 0)) (n : Int).natAbs (16 : Int).natAbs = lamp n := by
    have h1 : decide ((n : Int) < 0) = false := by simp
    rw [h1]; rfl
  refine AutoIntOps.truediv_2 (by decide) (by rw [e, hi n hn]; exact Bool.false_ne_true) ?_
  rw [e]
  exact hq _ _
theorem half2 {w : World} {A : Around} {E : Value → Shared → Prop} {h : Heap} {g : Array GenState} {d : Drawn} {t : Nat} {os : OsState} {Q : Value → Shared → Prop} {x : UInt64} {tn tk : Tok} (hq : ∀ tk t', Q (.float (halfF x) tk) (sh h g d t' os)) :
    wpAny (Md w) A (binaryOp .Div (.float x tn) (.int 2 tk)) Q E (sh h g d t os) :=
  AutoFloatOps.truediv_fi_2 (by decide +kernel) (by decide +kernel) (hq _ _)
end Mine
end
section
open PySem PySem.W PySem.W.X PyProof.Rows PySem.Calls
set_option maxRecDepth 100000
set_option maxHeartbeats 2000000
namespace Mine
def insL {α : Type} (l : List α) (k : Nat) (y : α) : List α := l.take k ++ y :: l.drop k
theorem insL_map {α β : Type} (f : α → β) (l : List α) (k : Nat) (y : α) : (insL l k y).map f = insL (l.map f) k (f y) := by simp [insL]
theorem insL_length {α : Type} (l : List α) (k : Nat) (y : α) : (insL l k y).length = l.length + 1 := by simp [insL]; omega
theorem insL_count {α : Type} [BEq α] [LawfulBEq α] (l : List α) (k : Nat) (y a : α) : (insL l k y).count a = l.count a + (if y == a then 1 else 0) := by
  have h : l.count a = (l.take k).count a + (l.drop k).count a := by rw [← List.count_append, List.take_append_drop]
  simp only [insL, List.count_append, List.count_cons, h]
  omega
theorem insL_mem {α : Type} (l : List α) (k : Nat) (y a : α) (h : a ∈ insL l k y) : a = y ∨ a ∈ l := by
  rcases List.mem_append.mp h with h | h
  · exact .inr (List.mem_of_mem_take h)
  · rcases List.mem_cons.mp h with h | h
    · exact .inl h
    · exact .inr (List.mem_of_mem_drop h)
theorem ins_arr (xs : List Value) (y : Value) (x : Int) (h0 : 0 ≤ x) (h1 : x ≤ xs.length) :
    (have k := if x < 0 then (x + (xs.toArray.size : Int)).toNat else min x.toNat xs.toArray.size; (xs.toArray.extract 0 k).push y ++ xs.toArray.extract k) = (insL xs x.toNat y).toArray := by
  have hk : (if x < 0 then (x + (xs.toArray.size : Int)).toNat else min x.toNat xs.toArray.size) = x.toNat := by
    rw [if_neg (by omega)]
    simp; omega
  show (xs.toArray.extract 0 (if x < 0 then (x + (xs.toArray.size : Int)).toNat else min x.toNat xs.toArray.size)).push y ++ xs.toArray.extract (if x < 0 then (x + (xs.toArray.size : Int)).toNat else min x.toNat xs.toArray.size) = _
  rw [hk]
  apply Array.ext'
  simp [insL, List.extract_eq_drop_take]
  rw [List.take_of_length_le (by simp)]
section
variable {w : World} {A : Around} {E : Value → Shared → Prop} {h₀ h : Heap} {env : Env} {L : Addr} {ks gs : List Str} {vs : List (Option Value)} {σ : List Reg} {g : Array GenState} {d : Drawn} {t : Nat} {os : OsState} {Q : Value → Shared → Prop}
/-- l.insert(x, y) -/
theorem ins1 {l : Addr} {items : List Value} {x : Int} {o e₁ e₂ : Expr} {apos pos : Pos} (h0 : 0 ≤ x) (h1 : x ≤ items.length) (hsz : items.length ≤ 1000)
    (hbase : attributeBase o "insert" env (eval o env) = eval o env) (hs : starEach [e₁, e₂] env = [(false, eval e₁ env), (false, eval e₂ env)]) (hline : (apos.endLine == pos.line) = true)
    (ho : ∀ Q' : Value → Shared → Prop, Q' (.ref l) (sh h g d t os) → wpAny (Md w) A (eval o env) Q' E (sh h g d t os)) (hl : h.PlainList l items.toArray)
    (hx : wpAny (Md w) A (eval e₁ env) (fun v s₁ => ∃ u, v = .int x u ∧ wpAny (Md w) A (eval e₂ env) (fun y s₂ => s₂.heap.PlainList l items.toArray ∧ ∀ h', h'.PlainList l (insL items x.toNat y).toArray → Heap.ExtBut l s₂.heap h' → Q .none { s₂ with heap := h' }) E s₁) E (sh h g d t os)) :
    wpAny (Md w) A (eval (.Call (.Attribute o "insert" apos) [e₁, e₂] [] pos) env) Q E (sh h g d t os) := by
  refine Call_method2 hbase hs hline (ho _ ⟨"list", "list.insert", F.plainAttrs_list, F.slot_list_insert, F.type_list_insert, hl.isList.typeIs, fun a e => ?_, ?_⟩)
  · cases e
    obtain ⟨n, e⟩ := hl
    exact ⟨_, e, rfl⟩
  · refine Calls.callWith_builtin rfl (Calls.evalArgs_plain (Calls.spliced_cons (wpAny_mono hx (fun v s₁ hv => ?_) fun _ _ e => e)))
    obtain ⟨u, rfl, hy⟩ := hv
    refine Calls.spliced_cons (wpAny_mono hy (fun y s₂ hy => Calls.spliced_nil ?_) fun _ _ e => e)
    obtain ⟨⟨n, hp⟩, hq⟩ := hy
    refine call_meets F.slot_list_insert ⟨_, hp, rfl⟩ F.entry_list_insert (F.args_list_insert_3 _ _ _) (AutoSeq1.list_insert_list_int_val_1 l items.toArray n x u y (by
      have : Builtin.List.listFitsIndex x = true := by
        unfold Builtin.List.listFitsIndex
        simp only [Bool.and_eq_true, decide_eq_true_eq]
        omega
      rw [this]; decide) (by rw [sizeLine_eq]; simp; omega)) ⟨hp, ?_⟩
    refine hq _ ?_ fun b o hb e => (Heap.get?_update_other _ _ (Ne.symm hb)).trans e
    rw [← ins_arr items y x h0 h1]
    exact ⟨_, Heap.get?_update_self _ hp rfl⟩
theorem divmod2 {a b : Int} {ta tb : Tok} (hb : b ≠ 0) (hs : b.natAbs < 1073741824) (hq : ∀ h' t' t1 t2, Keep h h' → h'.get? h.objs.size = some (tupleObj #[.int (a.fdiv b) t1, .int (a.fmod b) t2]) → Q (.ref h.objs.size) (sh h' g d t' os)) :
    wpAny (Md w) A (call (.builtin "divmod") [.int a ta, .int b tb]) Q E (sh h g d t os) :=
  divmod_int hb (hq _ _ _ _ (Keep.push _ _) (Heap.get?_push_size _ rfl)) (.inl (PyProof.noPylong_small hs))
theorem lenL {l : Addr} {items : Array Value} (hl : h.IsList l items) (hsz : items.size ≤ 1000) (hq : ∀ tk t', Q (.int items.size tk) (sh h g d t' os)) : wpAny (Md w) A (call (.builtin "len") [.ref l]) Q E (sh h g d t os) :=
  call_len_list hl (by omega) (hq _ _)
end
/-- the nine words: kind by kind -/
def w9 (k v : Nat) : Str := (([[Str.ofString "r", Str.ofString "R", Str.ofString "\\\""], [Str.ofString "g", Str.ofString "G", Str.ofString "\\\\"], [Str.ofString "b", Str.ofString "B", Str.ofString "\\b"]].getD k []).getD v (Str.ofString ""))
/-- what _law_beads makes: words of the nine, of each kind an even number -/
structure Beads (ws : List Str) : Prop where
  mem : ∀ w ∈ ws, ∃ k v, k < 3 ∧ v < 3 ∧ w = w9 k v
  even : ∀ j : Int, (ws.map kI).count j % 2 = 0
theorem kI_w9 {k v : Nat} (hk : k < 3) (hv : v < 3) : kI (w9 k v) = k := by
  have : (List.range 3).all (fun k => (List.range 3).all fun v => kI (w9 k v) == (k : Int)) = true := by decide +kernel
  have h1 := List.all_eq_true.mp this k (List.mem_range.mpr hk)
  have h2 := List.all_eq_true.mp h1 v (List.mem_range.mpr hv)
  simpa using h2
theorem Beads.nil : Beads [] := ⟨fun w hw => (nomatch hw), fun j => rfl⟩
theorem Beads.two {ws : List Str} (B : Beads ws) {k v v' a b : Nat} (hk : k < 3) (hv : v < 3) (hv' : v' < 3) : Beads (insL (insL ws a (w9 k v)) b (w9 k v')) where
  mem := fun w hw => by
    rcases insL_mem _ _ _ _ hw with rfl | hw
    · exact ⟨k, v', hk, hv', rfl⟩
    · rcases insL_mem _ _ _ _ hw with rfl | hw
      · exact ⟨k, v, hk, hv, rfl⟩
      · exact B.mem w hw
  even := fun j => by
    rw [insL_map, insL_map, insL_count, insL_count, kI_w9 hk hv, kI_w9 hk hv']
    have := B.even j
    split <;> omega
end Mine
end
section
open PySem PySem.W PySem.W.X PyProof.Rows PySem.Calls
set_option maxRecDepth 100000
set_option maxHeartbeats 2000000
namespace Mine
theorem sw_list {elts : List Expr} {pos : Pos} {t : Option Expr} {line : Nat} {env : Env} : swapsWith (.List elts pos) t line env = pure false := rfl
theorem se_list {elts : List Expr} {pos : Pos} {rest : List Expr} {env : Env} : starEach (.List elts pos :: rest) env = (false, eval (.List elts pos) env) :: starEach rest env := rfl
theorem se_const {c : Const} {k : Nat} {pos : Pos} {rest : List Expr} {env : Env} : starEach (.Constant c k pos :: rest) env = (false, eval (.Constant c k pos) env) :: starEach rest env := rfl
theorem newLS {w : World} {A : Around} {E : Value → Shared → Prop} {h₀ h : Heap} {L : Addr} {ks : List Str} {vs : List (Option Value)} {σ : List Reg} {g : Array GenState} {d : Drawn} {t : Nat} {os : OsState} {Q : Value → Shared → Prop} {xs : List Value}
    (S : Fm w h₀ L ks vs σ h) (hsz : xs.length ≤ 1000) (hq : ∀ D h', Fm w h₀ L ks vs (rP D xs.toArray :: σ) h' → Keep h h' → h.get? D = none → Q (.ref D) (sh h' g d t os)) : wpAny (Md w) A (newList xs) Q E (sh h g d t os) :=
  newL (by rw [sizeLine_eq]; omega) (hq _ _ (S.add (Keep.push h _) (rP h.objs.size xs.toArray) (plain_push h _) fun b hb => by rw [List.mem_singleton.mp hb]; exact fresh_size h) (Keep.push _ _) (fresh_size h))
theorem intsGet : ∀ {vs : List Value} {ns : List Int}, IntsAre vs ns → ∀ (i : Nat) (v : Value), vs[i]? = some v → ∃ n tk, v = .int n tk
  | _, _, .nil, i, v, h => by simp at h
  | _, _, .cons n t r, 0, v, h => by simp at h; exact ⟨n, t, h.symm⟩
  | _, _, .cons n t r, i + 1, v, h => intsGet r i v (by simpa using h)
theorem strValues_ins (l : List (Str × Tok)) (k : Nat) (y : Str) (t : Tok) : insL (strValues l) k (.str y t) = strValues (insL l k (y, t)) := (insL_map (fun p : Str × Tok => Value.str p.1 p.2) l k (y, t)).symm
def waysIt (W0 W1 W2 : Addr) : Array Value := #[.ref W0, .ref W1, .ref W2]
def wayIt (k : Nat) (a b c : Tok) : Array Value := #[.str (w9 k 0) a, .str (w9 k 1) b, .str (w9 k 2) c]
theorem wayIt_get (k : Nat) (a b c : Tok) {v : Nat} (hv : v < 3) : ∃ u, (wayIt k a b c)[v]? = some (.str (w9 k v) u) := by
  match v, hv with
  | 0, _ => exact ⟨_, rfl⟩
  | 1, _ => exact ⟨_, rfl⟩
  | 2, _ => exact ⟨_, rfl⟩
theorem Fm.head {w : World} {h₀ h : Heap} {L : Addr} {ks : List Str} {vs : List (Option Value)} {r r' : Reg} {σ : List Reg} (S : Fm w h₀ L ks vs (r :: σ) h) (e : r = r') : Fm w h₀ L ks vs (r' :: σ) h := e ▸ S
theorem beadsCall {w : World} {k : Nat} {A : Around} {E : Value → Shared → Prop} {Q : Value → Shared → Prop} {h : Heap} {g : Array GenState} {d : Drawn} {t : Nat} {os : OsState} (o : Ok (k + 4) A) (T : Tp w h) {nl : Addr} {vs0 : List Value} {ns : List Int}
    (hl : h.IsList nl vs0.toArray) (hns : IntsAre vs0 ns) (hlen : ns.length ≤ 100)
    (hq : ∀ D l h' t', Keep h h' → h'.PlainList D (strValues l).toArray → Beads (l.map (·.1)) → l.length = 2 * ns.length → h.get? D = none → Q (.ref D) (sh h' g d t' os)) :
    wpAny (Md w) A (call (.ref 214) [.ref nl]) Q E (sh h g d t os) := by
  refine' enter (k := k + 3) o T ?ho ?hcd [Str.ofString "numbers"] [Str.ofString "ways", Str.ofString "beads", Str.ofString "number", Str.ofString "rest", Str.ofString "kind", Str.ofString "one", Str.ofString "other"] [Str.ofString "divmod", Str.ofString "len"] ?hsc ?hb ?hl ?_
  case ho => exact rfl
  case hcd => exact rfl
  case hsc => decide +kernel
  case hb => exact rfl
  case hl => exact rfl
  intro L h₁ t₁ env V S o₁
  have three' : ∀ (x y z : Value), [x, y, z].length ≤ 1000 := fun _ _ _ => (by decide : 3 ≤ 1000)
  refine wpAny_execs_cons ?_
  with_reducible refine wpAny_Assign_Name ?_ ?_
  rotate_left
  · with_reducible exact sw_list
  with_reducible refine List_ ?_
  with_reducible refine spliced_more ?_ se_list
  with_reducible refine List_ ?_
  with_reducible refine spliced_more (cs fun a01 t2 => ?_) se_const
  with_reducible refine spliced_more (cs fun a02 t3 => ?_) se_const
  with_reducible refine spliced_more (cs fun a03 t4 => ?_) se_const
  refine spliced_none (newLS S (three' _ _ _) fun W0 h₂ S _ _ => ?_)
  have S := S.head (r' := rP W0 (wayIt 0 a01 a02 a03)) rfl
  with_reducible refine spliced_more ?_ se_list
  with_reducible refine List_ ?_
  with_reducible refine spliced_more (cs fun a11 t2 => ?_) se_const
  with_reducible refine spliced_more (cs fun a12 t3 => ?_) se_const
  with_reducible refine spliced_more (cs fun a13 t4 => ?_) se_const
  refine spliced_none (newLS S (three' _ _ _) fun W1 h₃ S _ _ => ?_)
  have S := S.head (r' := rP W1 (wayIt 1 a11 a12 a13)) rfl
  with_reducible refine spliced_more ?_ se_list
  with_reducible refine List_ ?_
  with_reducible refine spliced_more (cs fun a21 t2 => ?_) se_const
  with_reducible refine spliced_more (cs fun a22 t3 => ?_) se_const
  with_reducible refine spliced_more (cs fun a23 t4 => ?_) se_const
  refine spliced_none (newLS S (three' _ _ _) fun W2 h₄ S _ _ => ?_)
  have S := S.head (r' := rP W2 (wayIt 2 a21 a22 a23)) rfl
  refine spliced_none (newLS S (three' _ _ _) fun WW h₅ S _ _ => ?_)
  have S := S.head (r' := rP WW (waysIt W0 W1 W2)) rfl
  refine st 1 V S rfl rfl fun h₆ t₆ S => ?_
  refine wpAny_execs_cons (wpAny_Assign_Name (List_ (spliced_none (newLS S (Nat.zero_le _) fun D h₇ S _ _ => ?_))))
  refine st 2 V S rfl rfl fun h₈ t₈ S => ?_
  refine wpAny_execs_cons (wpAny_For (nm 0 V S rfl rfl ?_))
  have hwl : h₈.IsList nl vs0.toArray := hl.at fun o e => S.keep _ _ e
  have hvl : vs0.length = ns.length := hns.length
  refine forList o₁.hd (fun i vs σ g' => g' = g ∧ ∃ (l : List (Str × Tok)) (x3 x4 x5 x6 x7 : Option Value), vs = [some (.ref nl), some (.ref WW), some (.ref D), x3, x4, x5, x6, x7] ∧
      σ = [rP D (strValues l).toArray, rP WW (waysIt W0 W1 W2), rP W2 (wayIt 2 a21 a22 a23), rP W1 (wayIt 1 a11 a12 a13), rP W0 (wayIt 0 a01 a02 a03)] ∧ Beads (l.map (·.1)) ∧ l.length = 2 * i)
    (fun i vs σ g h' σ' _ S' => hl.at fun o e => S'.keep _ _ e) ?_ ?_ S ⟨rfl, [], _, _, _, _, _, rfl, rfl, Beads.nil, rfl⟩ hwl
  · rintro I i v vs σ g' h' t' hv ⟨rfl, l, x3, x4, x5, x6, x7, rfl, rfl, hB, hll⟩ S
    refine wpAny_pure ?_
    obtain ⟨n, tk, rfl⟩ := intsGet hns i v (by simpa using hv)
    have hi : i < vs0.length := by
      have := (Array.getElem?_eq_some_iff.mp hv).1
      simpa using this
    refine wpAny_assign_Name (st 3 V S rfl rfl fun h₅ t₅ S => ?_)
    -- rest, kind
    refine wpAny_execs_cons (Assign_Tuple (Call_Name2 (bi (v := .builtin "divmod") V S.tp (by decide) (by rfl) (by rfl) (by decide) (Calls.callWith_builtin rfl (Calls.evalArgs_plain (Calls.spliced_cons (nm 3 V S rfl rfl (Calls.spliced_cons (ci fun k1 t1 => Calls.spliced_nil (divmod2 (by decide) (by decide) fun h₆ t₆ k2 k3 k₆ hT => ?_))))))))))
    have S := S.kept k₆
    refine un2 4 5 V S o₁.hd ⟨_, hT, rfl, 0, rfl⟩ rfl rfl rfl rfl fun h₇ t₇ S hx₇ => ?_
    have hk0 : 0 ≤ n.fmod 3 := Int.fmod_nonneg_of_pos _ (by decide)
    have hk3 : n.fmod 3 < 3 := Int.fmod_lt_of_pos _ (by decide)
    generalize n.fmod 3 = kd at S hk0 hk3
    generalize n.fdiv 3 = r1 at S
    have hsz : (strValues l).toArray.size = 2 * i := by simp [strValues, hll]
    have hi2 : i < 100 := by omega
    -- rest, one
    refine wpAny_execs_cons (Assign_Tuple (Call_Name2 (bi (v := .builtin "divmod") V S.tp (by decide) (by rfl) (by rfl) (by decide) (Calls.callWith_builtin rfl (Calls.evalArgs_plain (Calls.spliced_cons (nm 4 V S rfl rfl (Calls.spliced_cons (wpAny_BinOp (Call_Name1 (bi (v := .builtin "len") V S.tp (by decide) (by rfl) (by rfl) (by decide) (PySem.callWith_builtin1 (nm 2 V S rfl rfl (lenL (S.at 1 rfl : Heap.PlainList _ _ _).isList (by omega) fun k5 t5 => ci fun k6 t6 => addI fun k7 t7 => Calls.spliced_nil (divmod2 (by omega) (by omega) fun h₆ t₆ k2 k3 k₆ hT => ?_)))))))))))))))
    have S := S.kept k₆
    refine un2 4 6 V S o₁.hd ⟨_, hT, rfl, 0, rfl⟩ rfl rfl rfl rfl fun h₇ t₇ S hx₇ => ?_
    have ho0 : 0 ≤ r1.fmod (((strValues l).toArray.size : Nat) + 1 : Int) := Int.fmod_nonneg_of_pos _ (by omega)
    have ho3 : r1.fmod (((strValues l).toArray.size : Nat) + 1 : Int) < ((strValues l).toArray.size : Nat) + 1 := Int.fmod_lt_of_pos _ (by omega)
    generalize r1.fmod (((strValues l).toArray.size : Nat) + 1 : Int) = one at S ho0 ho3
    generalize r1.fdiv (((strValues l).toArray.size : Nat) + 1 : Int) = r2 at S
    -- rest, other
    refine wpAny_execs_cons (Assign_Tuple (Call_Name2 (bi (v := .builtin "divmod") V S.tp (by decide) (by rfl) (by rfl) (by decide) (Calls.callWith_builtin rfl (Calls.evalArgs_plain (Calls.spliced_cons (nm 4 V S rfl rfl (Calls.spliced_cons (wpAny_BinOp (Call_Name1 (bi (v := .builtin "len") V S.tp (by decide) (by rfl) (by rfl) (by decide) (PySem.callWith_builtin1 (nm 2 V S rfl rfl (lenL (S.at 1 rfl : Heap.PlainList _ _ _).isList (by omega) fun k5 t5 => ci fun k6 t6 => addI fun k7 t7 => Calls.spliced_nil (divmod2 (by omega) (by omega) fun h₆ t₆ k2 k3 k₆ hT => ?_)))))))))))))))
    have S := S.kept k₆
    refine un2 4 7 V S o₁.hd ⟨_, hT, rfl, 0, rfl⟩ rfl rfl rfl rfl fun h₇ t₇ S hx₇ => ?_
    have hu0 : 0 ≤ r2.fmod (((strValues l).toArray.size : Nat) + 2 : Int) := Int.fmod_nonneg_of_pos _ (by omega)
    have hu3 : r2.fmod (((strValues l).toArray.size : Nat) + 2 : Int) < ((strValues l).toArray.size : Nat) + 2 := Int.fmod_lt_of_pos _ (by omega)
    generalize r2.fmod (((strValues l).toArray.size : Nat) + 2 : Int) = oth at S hu0 hu3
    generalize r2.fdiv (((strValues l).toArray.size : Nat) + 2 : Int) = r3 at S
    rw [hsz] at ho3 hu3
    obtain ⟨kn, rfl⟩ : ∃ kn : Nat, kd = kn := ⟨kd.toNat, by omega⟩
    have hkn : kn < 3 := by omega
    have way : ∀ {l' : List (Str × Tok)} {h' : Heap} {t' : Nat} {vs : List (Option Value)} (S : Fm w h L ([Str.ofString "numbers"] ++ [Str.ofString "ways", Str.ofString "beads", Str.ofString "number", Str.ofString "rest", Str.ofString "kind", Str.ofString "one", Str.ofString "other"]) vs (rLI I nl (i + 1) :: [rP D (strValues l').toArray, rP WW (waysIt W0 W1 W2), rP W2 (wayIt 2 a21 a22 a23), rP W1 (wayIt 1 a11 a12 a13), rP W0 (wayIt 0 a01 a02 a03)]) h')
        (h1 : vs[1]? = some (some (.ref WW))) (tkd : Tok) (h5 : vs[5]? = some (some (.int (kn : Int) tkd))) {xa xb : Expr} {op : Operator} {xp : Pos} {p1 p2 p3 p4 : Pos} {Q : Value → Shared → Prop} {v : Int} (hv0 : 0 ≤ v) (hv3 : v < 3)
        (he : ∀ Q' : Value → Shared → Prop, (∀ tk t', Q' (.int v tk) (sh h' g' d t' os)) → wpAny (Md w) (A.deeper env) (eval (.BinOp xa op xb xp) env) Q' No (sh h' g' d t' os)),
        (∀ tk t', Q (.str (w9 kn v.toNat) tk) (sh h' g' d t' os)) →
        wpAny (Md w) (A.deeper env) (eval (.Subscript (.Subscript (.Name (Str.ofString "ways") p1) (.Name (Str.ofString "kind") p2) p3) (.BinOp xa op xb xp) p4) env) Q No (sh h' g' d t' os) := by
      intro l' h' t' vs S h1 tkd h5 xa xb op xp p1 p2 p3 p4 Q v hv0 hv3 he
      have hg : ∃ a r1 r2 r3, (waysIt W0 W1 W2)[kn]? = some (.ref a) ∧ h'.IsList a (wayIt kn r1 r2 r3) := by
        match kn, hkn with
        | 0, _ => exact ⟨W0, a01, a02, a03, rfl, (S.at 5 rfl : Heap.PlainList _ _ _).isList⟩
        | 1, _ => exact ⟨W1, a11, a12, a13, rfl, (S.at 4 rfl : Heap.PlainList _ _ _).isList⟩
        | 2, _ => exact ⟨W2, a21, a22, a23, rfl, (S.at 3 rfl : Heap.PlainList _ _ _).isList⟩
      obtain ⟨a, r1, r2, r3, hg1, hg2⟩ := hg
      intro hq
      refine Subscript_ (Subscript_ (nm 1 V S rfl h1 (nm 5 V S rfl h5 (itemL (k := (kn : Int)) (v := .ref a) (S.at 2 rfl : Heap.PlainList _ _ _).isList (by omega) (by omega) hg1 ?_))))
      refine he _ fun tk t'' => ?_
      obtain ⟨u, hu⟩ := wayIt_get kn r1 r2 r3 (v := v.toNat) (by omega)
      exact itemL hg2 hv0 (by omega) hu (hq _ _)
    have hsl : (strValues l).length = 2 * i := by simpa using hsz
    refine wpAny_execs_cons (wpAny_Expr (ins1 (items := strValues l) ho0 (by omega) (by omega) rfl rfl rfl (fun Q' q => nm 2 V S rfl rfl q) (S.at 1 rfl) (nm 6 V S rfl rfl ⟨_, rfl, way S rfl _ rfl (Int.fmod_nonneg_of_pos r3 (by decide : (0 : Int) < 3)) (Int.fmod_lt_of_pos r3 (by decide)) (fun Q' q => wpAny_BinOp (nm 4 V S rfl rfl (ci fun k1 t1 => modI (by decide) q))) fun tk t' => ⟨S.at 1 rfl, fun h₉ hl₉ hx₉ => ?_⟩⟩)) V.inter)
    rw [strValues_ins] at hl₉
    have S := S.put 1 rfl (rP D (strValues (insL l one.toNat (w9 kn (r3.fmod 3).toNat, tk))).toArray) (h' := h₉) (fun b o hb e => hx₉ b o (fun q => hb (by rw [q]; exact List.mem_singleton.mpr rfl)) e) hl₉ (fun b hb => .inl hb)
    have hll2 : (insL l one.toNat (w9 kn (r3.fmod 3).toNat, tk)).length = 2 * i + 1 := by rw [insL_length, hll]
    have hm1 : (insL l one.toNat (w9 kn (r3.fmod 3).toNat, tk)).map (·.1) = insL (l.map (·.1)) one.toNat (w9 kn (r3.fmod 3).toNat) := insL_map (fun p : Str × Tok => p.1) _ _ _
    generalize insL l one.toNat (w9 kn (r3.fmod 3).toNat, tk) = l2 at S hll2 hm1
    have hsl2 : (strValues l2).length = 2 * i + 1 := by simp [strValues, hll2]
    refine wpAny_execs_cons (wpAny_Expr (ins1 (items := strValues l2) hu0 (by omega) (by omega) rfl rfl rfl (fun Q' q => nm 2 V S rfl rfl q) (S.at 1 rfl) (nm 7 V S rfl rfl ⟨_, rfl, way S rfl _ rfl (Int.fmod_nonneg_of_pos (r3.fdiv 3) (by decide : (0 : Int) < 3)) (Int.fmod_lt_of_pos (r3.fdiv 3) (by decide)) (fun Q' q => wpAny_BinOp (wpAny_BinOp (nm 4 V S rfl rfl (ci fun k1 t1 => divI (by decide) (PyProof.noPylong_small (by decide)) fun k2 t2 => ci fun k3 t3 => modI (by decide) q)))) fun tk2 t' => ⟨S.at 1 rfl, fun h₁₀ hl₁₀ hx₁₀ => ?_⟩⟩)) V.inter)
    rw [strValues_ins] at hl₁₀
    have S := S.put 1 rfl (rP D (strValues (insL l2 oth.toNat (w9 kn ((r3.fdiv 3).fmod 3).toNat, tk2))).toArray) (h' := h₁₀) (fun b o hb e => hx₁₀ b o (fun q => hb (by rw [q]; exact List.mem_singleton.mpr rfl)) e) hl₁₀ (fun b hb => .inl hb)
    have hm2 : (insL l2 oth.toNat (w9 kn ((r3.fdiv 3).fmod 3).toNat, tk2)).map (·.1) = insL (l2.map (·.1)) oth.toNat (w9 kn ((r3.fdiv 3).fmod 3).toNat) := insL_map (fun p : Str × Tok => p.1) _ _ _
    have q1 := Int.fmod_nonneg_of_pos r3 (by decide : (0 : Int) < 3)
    have q2 := Int.fmod_lt_of_pos r3 (by decide : (0 : Int) < 3)
    have q3 := Int.fmod_nonneg_of_pos (r3.fdiv 3) (by decide : (0 : Int) < 3)
    have q4 := Int.fmod_lt_of_pos (r3.fdiv 3) (by decide : (0 : Int) < 3)
    refine wpAny_execs_nil ⟨h₁₀, g', _, _, _, rfl, S, rfl, _, _, _, _, _, _, rfl, rfl, ?_, by rw [insL_length, hll2]; omega⟩
    rw [hm2, hm1]
    exact hB.two hkn (by omega) (by omega)
  · rintro h' g' t' vs σ ⟨rfl, l, x3, x4, x5, x6, x7, rfl, rfl, hB, hll⟩ S
    refine wpAny_execs_cons (wpAny_Return_some (nm 2 V S rfl rfl ?_))
    have hf := (S.led 0 _ rfl).2
    exact hq D l h' t' S.keep (S.at 0 rfl) hB (by rw [hll]; simp; omega) (hf D (List.mem_singleton.mpr rfl)).2
end Mine
end
section
open PySem PySem.W PySem.W.X PyProof.Rows PySem.Calls PySem.SeqAt
set_option maxRecDepth 100000
set_option maxHeartbeats 2000000
namespace Mine

section
variable {w : World} {A : Around} {E : Value → Shared → Prop} {h₀ h : Heap} {env : Env} {L : Addr} {ks gs : List Str} {vs : List (Option Value)} {σ : List Reg} {g : Array GenState} {d : Drawn} {t : Nat} {os : OsState} {Q : Value → Shared → Prop}
theorem addL {a b : Addr} {xs ys : Array Value} (ha : h.PlainList a xs) (hb : h.PlainList b ys) (hsz : xs.size + ys.size ≤ 1000) (hq : ∀ D h', Keep h h' → h.get? D = none → h'.PlainList D (xs ++ ys) → Q (.ref D) (sh h' g d t os)) :
    wpAny (Md w) A (binaryOp .Add (.ref a) (.ref b)) Q E (sh h g d t os) := by
  obtain ⟨n, ha⟩ := ha
  obtain ⟨m, hb⟩ := hb
  exact P.add_list ha hb (hq _ _ (Keep.push _ _) (fresh_size h) (plain_push h _)) (by rw [sizeLine_eq]; omega)
theorem all_range {n : Nat} {e : Nat → Bool} : (List.range n).all e = decide (∀ j, j < n → e j = true) := by
  rw [Bool.eq_iff_iff]; simp
theorem all_true {n : Nat} : (!(List.range n).all fun _ => true) = false := by rw [all_range]; simp
theorem eqStrLists {a b : Addr} {l m : List (Str × Tok)} (ha : h.IsList a (strValues l).toArray) (hb : h.IsList b (strValues m).toArray) (hu : A.units < cLine) (hq : Q (.bool (decide (l.map (·.1) = m.map (·.1)))) (sh h g d t os)) :
    wpAny (Md w) A (compareOp .Eq (.ref a) (.ref b)) Q E (sh h g d t os) := by
  by_cases hs : l.length = m.length
  · have hsz : (strValues l).toArray.size = (strValues m).toArray.size := by simp [strValues, hs]
    refine SeqAt.eq_listAt (e := fun j => (l.map (·.1)).getD j (Str.ofString "") == (m.map (·.1)).getD j (Str.ofString "")) ha hb hsz hu (fun j h1 h2 => ?_) ?_
    · have j1 : j < l.length := by simpa [strValues] using h1
      have j2 : j < m.length := by simpa [strValues] using h2
      have e1 : (strValues l).toArray[j] = .str l[j].1 l[j].2 := by simp [strValues]
      have e2 : (strValues m).toArray[j] = .str m[j].1 m[j].2 := by simp [strValues]
      have e3 : (l.map (·.1)).getD j (Str.ofString "") = l[j].1 := by simp [List.getD, j1]
      have e4 : (m.map (·.1)).getD j (Str.ofString "") = m[j].1 := by simp [List.getD, j2]
      rw [e1, e2, e3, e4]
      exact EqAt.str_str _ _ _ _
    · refine cast ?_ hq
      congr 2
      rw [all_range]
      have : (strValues l).toArray.size = l.length := by simp [strValues]
      rw [this]
      refine decide_eq_decide.mpr ⟨fun e j hj => by rw [e]; exact beq_self_eq_true _, fun e => ?_⟩
      apply List.ext_getElem
      · simpa using hs
      · intro j h1 h2
        have j1 : j < l.length := by simpa using h1
        have j2 : j < m.length := by simpa using h2
        have := eq_of_beq (e j j1)
        simpa [List.getD, j1, j2] using this
  · have hsz : ((strValues l).toArray.size != (strValues m).toArray.size) = true := by simpa [strValues] using hs
    refine SeqAt.eq_list_lengthsAt ha hb hsz hu ?_
    have : decide (l.map (·.1) = m.map (·.1)) = false := by
      rw [decide_eq_false_iff_not]
      intro e
      have := congrArg List.length e
      simp at this
      exact hs this
    rw [← this]; exact hq
theorem intsAt : ∀ {xs : List Value} {ns : List Int}, IntsAre xs ns → ∀ (j : Nat) (hj : j < xs.length), ∃ tk, xs[j] = .int (ns.getD j 0) tk
  | _, _, .nil, j, hj => by simp at hj
  | _, _, .cons n t r, 0, hj => ⟨t, by simp⟩
  | _, _, .cons n t r, j + 1, hj => by
    obtain ⟨tk, e⟩ := intsAt r j (by simpa using hj)
    exact ⟨tk, by simpa using e⟩
theorem eqIntLists {a b : Addr} {xs ys : List Value} {ns ms : List Int} (ha : h.IsList a xs.toArray) (hb : h.IsList b ys.toArray) (hx : IntsAre xs ns) (hy : IntsAre ys ms) (hu : A.units < cLine) (hs : ns.length = ms.length) (hq : Q (.bool (decide (ns = ms))) (sh h g d t os)) :
    wpAny (Md w) A (compareOp .Eq (.ref a) (.ref b)) Q E (sh h g d t os) := by
  have l1 := hx.length
  have l2 := hy.length
  refine SeqAt.eq_listAt (e := fun j => ns.getD j 0 == ms.getD j 0) ha hb (by simp; omega) hu (fun j h1 h2 => ?_) ?_
  · obtain ⟨t1, e1⟩ := intsAt hx j (by simpa using h1)
    obtain ⟨t2, e2⟩ := intsAt hy j (by simpa using h2)
    have e1 : xs.toArray[j] = .int (ns.getD j 0) t1 := by simpa using e1
    have e2 : ys.toArray[j] = .int (ms.getD j 0) t2 := by simpa using e2
    rw [e1, e2]
    exact EqAt.int_int _ _ _ _
  · refine cast ?_ hq
    congr 2
    rw [all_range]
    have : xs.toArray.size = ns.length := by simpa using l1
    rw [this]
    refine decide_eq_decide.mpr ⟨fun e j hj => by rw [e]; exact beq_self_eq_true _, fun e => ?_⟩
    apply List.ext_getElem hs
    intro j h1 h2
    have := eq_of_beq (e j h1)
    simpa [List.getD, h1, h2] using this
theorem tupEqAt {T U : Addr} {u v u' v' : Value} (hT : h.IsTuple T #[u, v]) (hU : h.IsTuple U #[u', v']) (hu : A.units < cLine) (h1 : EqAt A.in1 (sh h g d t os) u u' true) (h2 : EqAt A.in1 (sh h g d t os) v v' true) : EqAt A (sh h g d t os) (.ref T) (.ref U) true := by
  by_cases e : T = U
  · subst e; exact EqAt.same _
  · have R := RcAt.tuples (s := sh h g d t os) (e := fun _ => true) hT hU hu (fun j h1' h2' => by
      match j, h1' with
      | 0, _ => exact h1
      | 1, _ => exact h2)
    exact EqAt.of_refs e R
theorem TupsAt.get {h : Heap} : ∀ {Ts : List Addr} {r : List (Nat × Str)}, TupsAt h Ts r → ∀ (i : Nat) (hi : i < Ts.length), ∃ p tk tu, r[i]? = some p ∧ h.get? Ts[i] = some (tupleObj #[.int p.1 tk, .str p.2 tu])
  | [], [], _, i, hi => by simp at hi
  | T :: _, p :: _, x, 0, _ => by
    obtain ⟨tk, tu, q⟩ := x.1
    exact ⟨p, tk, tu, rfl, q⟩
  | T :: _, p :: _, x, i + 1, hi => by
    obtain ⟨p', tk, tu, h3, h4⟩ := TupsAt.get x.2 i (by simpa using hi)
    exact ⟨p', tk, tu, by simpa using h3, by simpa using h4⟩
theorem neTups {a b : Addr} {Ts Us : List Addr} {r : List (Nat × Str)} (ha : h.IsList a (Ts.map Value.ref).toArray) (hb : h.IsList b (Us.map Value.ref).toArray) (hT : TupsAt h Ts r) (hU : TupsAt h Us r) (hu : A.units + 1 < cLine) (hq : Q (.bool false) (sh h g d t os)) :
    wpAny (Md w) A (compareOp .NotEq (.ref a) (.ref b)) Q E (sh h g d t os) := by
  have l1 := hT.len
  have l2 := hU.len
  refine RcNeAt.lists (s := sh h g d t os) (e := fun _ => true) ha hb (by simp; omega) (by omega) (fun j h1 h2 => ?_) _ w E Q ?_
  · have j1 : j < Ts.length := by simpa using h1
    have j2 : j < Us.length := by simpa using h2
    obtain ⟨p, tk, tu, hp, hTj⟩ := hT.get j j1
    obtain ⟨p', tk', tu', hp', hUj⟩ := hU.get j j2
    obtain rfl := Option.some.inj (hp.symm.trans hp')
    have e1 : (Ts.map Value.ref).toArray[j] = .ref Ts[j] := by simp
    have e2 : (Us.map Value.ref).toArray[j] = .ref Us[j] := by simp
    rw [e1, e2]
    refine tupEqAt (A := A.in1) ⟨_, hTj, rfl, 0, rfl⟩ ⟨_, hUj, rfl, 0, rfl⟩ hu ?_ ?_
    · have := EqAt.int_int (A := A.in1.in1) (s := sh h g d t os) (p.1 : Int) tk (p.1 : Int) tk'
      rwa [beq_self_eq_true] at this
    · have := EqAt.str_str (A := A.in1.in1) (s := sh h g d t os) p.2 tu p.2 tu'
      rwa [beq_self_eq_true] at this
  · rw [all_true]; exact hq
theorem nePairs {a b : Addr} {Ts Us : List Addr} {r : List (Str × Str)} (ha : h.IsList a (Ts.map Value.ref).toArray) (hb : h.IsList b (Us.map Value.ref).toArray) (hT : PairsAt h Ts r) (hU : PairsAt h Us r) (hu : A.units + 1 < cLine) (hq : Q (.bool false) (sh h g d t os)) :
    wpAny (Md w) A (compareOp .NotEq (.ref a) (.ref b)) Q E (sh h g d t os) := by
  have l1 := hT.len
  have l2 := hU.len
  refine RcNeAt.lists (s := sh h g d t os) (e := fun _ => true) ha hb (by simp; omega) (by omega) (fun j h1 h2 => ?_) _ w E Q ?_
  · have j1 : j < Ts.length := by simpa using h1
    have j2 : j < Us.length := by simpa using h2
    obtain ⟨T, p, tk, tu, eT, -, hp, hTj⟩ := hT.get j (.ref Ts[j]) (by simp [j1])
    obtain ⟨U, p', tk', tu', eU, -, hp', hUj⟩ := hU.get j (.ref Us[j]) (by simp [j2])
    obtain rfl := Option.some.inj (hp.symm.trans hp')
    have e1 : (Ts.map Value.ref).toArray[j] = .ref T := by simpa using eT
    have e2 : (Us.map Value.ref).toArray[j] = .ref U := by simpa using eU
    rw [e1, e2]
    refine tupEqAt (A := A.in1) ⟨_, hTj, rfl, 0, rfl⟩ ⟨_, hUj, rfl, 0, rfl⟩ hu ?_ ?_
    · have := EqAt.str_str (A := A.in1.in1) (s := sh h g d t os) p.1 tk p.1 tk'
      rwa [beq_self_eq_true] at this
    · have := EqAt.str_str (A := A.in1.in1) (s := sh h g d t os) p.2 tu p.2 tu'
      rwa [beq_self_eq_true] at this
  · rw [all_true]; exact hq
theorem neNil {a b : Addr} (ha : h.IsList a #[]) (hb : h.IsList b #[]) (hu : A.units < cLine) (hq : Q (.bool false) (sh h g d t os)) :
    wpAny (Md w) A (compareOp .NotEq (.ref a) (.ref b)) Q E (sh h g d t os) :=
  RcNeAt.lists (s := sh h g d t os) (e := fun _ => true) ha hb rfl hu (fun j h1 h2 => absurd h1 (Nat.not_lt_zero _)) _ w E Q (by simpa using hq)
theorem un3 (i j k : Nat) {x y z : Str} {px py pz pos : Pos} {kk : Nat} {T : Addr} {u v r : Value} {Q : Unit → Shared → Prop} (V : EnvOk env L ks gs) (S : Fm w h₀ L ks vs σ h) (ho : A.handled = none) (hT : h.IsTuple T #[u, v, r])
    (hx : ks[i]? = some x) (hi : i < vs.length) (hy : ks[j]? = some y) (hj : j < vs.length) (hz : ks[k]? = some z) (hk : k < vs.length)
    (hq : ∀ h' t', Fm w h₀ L ks (((vs.set i (some u)).set j (some v)).set k (some r)) σ h' → Q () (sh h' g d t' os)) :
    wpAny (Md w) A (assign (.Tuple [.Name x px, .Name y py, .Name z pz] kk pos) env (.ref T)) Q E (sh h g d t os) := by
  have sm : ∀ {vs : List (Option Value)} {i : Nat}, i < vs.length → (vs[i]?).isSome = true := fun h => by rw [List.getElem?_eq_getElem h]; rfl
  refine wpAny_assign_Tuple ho hT rfl rfl fun h₃ hx₃ => ?_
  have k₃ : Keep h h₃ := fun b o q => hx₃ b o (Nat.ne_of_lt (Heap.lt_size q)) q
  show wpAny _ _ (do holding [_, _] (assign (.Name x px) env u); holding [_] (assign (.Name y py) env v); holding [] (assign (.Name z pz) env r); pure ()) _ _ (sh h₃ g d t os)
  refine wpAny_bind (wpAny_holding (wpAny_assign_Name (st i V (S.kept k₃) hx (sm hi) fun h₄ t₄ S₄ => ?_)))
  refine wpAny_bind (wpAny_holding (wpAny_assign_Name (st j V S₄ hy (sm (by simpa using hj)) fun h₅ t₅ S₅ => ?_)))
  refine wpAny_bind (wpAny_holding (wpAny_assign_Name (st k V S₅ hz (sm (by simpa using hk)) fun h₆ t₆ S₆ => wpAny_pure ?_)))
  exact hq h₆ t₆ S₆
theorem strI {a : Int} {ta : Tok} (ha : a.natAbs ≤ 1000) (hq : ∀ tk t', Q (.str (Str.ofString (toString a)) tk) (sh h g d t' os)) : wpAny (Md w) A (call (.type "str") [.int a ta]) Q E (sh h g d t os) :=
  P.str_of_int (by
    have h1 : a.natAbs.log2 ≤ a.natAbs := Nat.log2_le_self _
    omega) (hq _ _)
/-- items of a list, taken apart into two names -/
theorem Src.tup {h₁ : Heap} {ksC gsC : List Str} {scope : Scope} {cl : List (Str × Addr)} {x y : Str} {px py pp : Pos} {kk : Nat} {I ax : Addr} {Ts : List Addr} {r : List (Nat × Str)} (hh : A.handled = none) (hne : ax ≠ I) (hI : h₁.get? I = none) (i j : Nat) (hi : ksC[i]? = some x) (hj : ksC[j]? = some y) (hij : i ≠ j)
    (hTI : ∀ T ∈ Ts, T ≠ I) :
    Src w A g d os env h₁ I (.Tuple [.Name x px, .Name y py] kk pp) scope cl ksC gsC Ts.length (fun n vs => ∃ p tu, r[n]? = some p ∧ vs[j]? = some (some (.str p.2 tu))) (I :: ax :: Ts) [I] (fun n h => h.IsListIter I ax n ∧ h.IsList ax (Ts.map Value.ref).toArray ∧ TupsAt h Ts r) where
  sub := fun b hb => by rw [List.mem_singleton.mp hb]; exact List.mem_cons_self ..
  frame := fun n h h' st k => ⟨st.1.at fun o e => k I (by simp) o e, st.2.1.at fun o e => k ax (by simp) o e, st.2.2.same fun b hb => k b (by simp [hb])⟩
  alive := fun n h st b hb => by
    rcases List.mem_cons.mp hb with rfl | hb
    · obtain ⟨o, e, _⟩ := st.1; exact ⟨o, e⟩
    · rcases List.mem_cons.mp hb with rfl | hb
      · obtain ⟨o, e, _⟩ := st.2.1; exact ⟨o, e⟩
      · exact st.2.2.alive b hb
  next := fun n C vs h' t' hn VC S hvl st hC => by
    have hw := Walks.list (prog := PySem.Challenge.pw_sn0040_01) (w := w) (A := A) hh I ax hne (Ts.map Value.ref).toArray
    have hIC : I ≠ C := fun e => hC (by simp [e])
    refine hw.item n (sh h' g d t' os) _ _ (by simpa using hn) ⟨st.1, st.2.1⟩ fun v h₃ tk hP st₃ hk => ?_
    have hT3 : TupsAt h₃ Ts r := st.2.2.same fun b hb o e => hk b o (by simp; exact hTI b hb) e
    obtain ⟨p, t1, t2, hp, hTn⟩ := hT3.get n hn
    have hv : v = .ref Ts[n] := by
      have : (Ts.map Value.ref).toArray[n]? = some (.ref Ts[n]) := by simp [hn]
      have hP' : (Ts.map Value.ref).toArray[n]? = some v := hP
      rw [this] at hP'
      exact (Option.some.inj hP').symm
    subst hv
    refine ⟨_, rfl, ?_⟩
    refine wpAny_letOwnedTupleGo_listiter (s := sh h₃ g d tk os) st₃.1 ?_
    have S₃ : Fm w h₁ C ksC vs [] h₃ := S.off (fp := [I]) (fun b hb => by rw [List.mem_singleton.mp hb]; exact ⟨hIC, hI, fun i r hi => by simp at hi⟩) hk
    have hil : i < ksC.length := (List.getElem?_eq_some_iff.mp hi).1
    have hjl : j < ksC.length := (List.getElem?_eq_some_iff.mp hj).1
    refine un2 i j VC S₃ hh ⟨_, hTn, rfl, 0, rfl⟩ hi (by rw [List.getElem?_eq_getElem (by omega)]; rfl) hj (by rw [List.getElem?_eq_getElem (by omega)]; rfl) fun h₄ t₄ S₄ hx₄ => ?_
    have hCn : ∀ b ∈ I :: ax :: Ts, b ≠ C := fun b hb e => hC (e ▸ hb)
    refine ⟨h₄, t₄, _, rfl, S₄, by simp [hvl], ⟨p, t2, hp, ?_⟩, ⟨st₃.1.at fun o e => hx₄ I o hIC e, st₃.2.at fun o e => hx₄ ax o (hCn ax (by simp)) e, hT3.same fun b hb o e => hx₄ b o (hCn b (by simp [hb])) e⟩, fun b o hb hbw e => hx₄ b o hb (hk b o hbw e)⟩
    rw [List.getElem?_set, if_pos rfl, if_pos (by simp; omega)]
  done := fun h' t' st => (Walks.list (prog := PySem.Challenge.pw_sn0040_01) (w := w) (A := A) hh I ax hne (Ts.map Value.ref).toArray).done (sh h' g d t' os) _ _ (by simpa using (⟨st.1, st.2.1⟩ : _ ∧ _)) fun h₃ tk hk => ⟨rfl, h₃, tk, rfl, hk⟩
  self := fun n s Q E st hQ => wpAny_pyIter_listiter st.1 hQ
end
end Mine
end
section
open PySem PySem.W PySem.W.X PyProof.Rows PySem.Calls PySem.SeqAt
set_option maxRecDepth 100000
set_option maxHeartbeats 2000000
namespace Mine

theorem cellOf_some {env : Env} {x : Str} {c : Addr} (h : env.cells.lookup x = some c) : cellOf env x = pure c := by
  unfold cellOf; rw [h]
theorem clos2 {scope : Scope} {env : Env} {a b x y : Str} {c e : Addr} (hn : scope.names = [(a, .local), (b, .local), (x, .free), (y, .free)]) (hx : env.cells.lookup x = some c) (hy : env.cells.lookup y = some e) : closureFor scope env = pure [(y, e), (x, c)] := by
  unfold closureFor
  rw [hn]
  simp only [List.forIn_cons, List.forIn_nil, show (NameKind.local == NameKind.free) = false from rfl, show (NameKind.free == NameKind.free) = true from rfl, Bool.false_eq_true, if_false, if_true, cellOf_some hx, cellOf_some hy]
  rfl
theorem clos1 {scope : Scope} {env : Env} {a b x : Str} {c : Addr} (hn : scope.names = [(a, .local), (b, .local), (x, .free)]) (hx : env.cells.lookup x = some c) : closureFor scope env = pure [(x, c)] := by
  unfold closureFor
  rw [hn]
  simp only [List.forIn_cons, List.forIn_nil, show (NameKind.local == NameKind.free) = false from rfl, show (NameKind.free == NameKind.free) = true from rfl, Bool.false_eq_true, if_false, if_true, cellOf_some hx]
  rfl
structure CE (env : Env) (L : Addr) : Prop where
  kb : env.kindOf (Str.ofString "beads") = some .cell
  cb : env.cells.lookup (Str.ofString "beads") = some (L + 1)
  kd : env.kindOf (Str.ofString "side") = some .cell
  cd : env.cells.lookup (Str.ofString "side") = some (L + 2)
  kc : env.kindOf (Str.ofString "cuts") = some .cell
  cc : env.cells.lookup (Str.ofString "cuts") = some (L + 3)
end Mine
end
section
open PySem PySem.W PySem.W.X PyProof.Rows PySem.Calls PySem.SeqAt
set_option maxRecDepth 100000
set_option maxHeartbeats 2000000
namespace Mine

def lawBody : List Stmt := match (PySem.Challenge.pw_sn0040_01.main.body.getLast?) with
  | some (.FunctionDef _ _ b _ _ _ _ _ _ _) => b
  | _ => []
def stAt (l : List Stmt) (i : Nat) : Stmt := l.getD i (.Pass ⟨0,0,0,0⟩)
def bodyAt : Stmt → List Stmt
  | .For _ _ b _ _ => b
  | _ => []
def inner : List Stmt := bodyAt (stAt (bodyAt (stAt lawBody 9)) 0)
abbrev ksL : List Str := [Str.ofString "script", Str.ofString "half", Str.ofString "whole", Str.ofString "hue", Str.ofString "light", Str.ofString "share", Str.ofString "name", Str.ofString "due", Str.ofString "table", Str.ofString "fair", Str.ofString "first", Str.ofString "second", Str.ofString "pieces", Str.ofString "text", Str.ofString "left", Str.ofString "units", Str.ofString "counts", Str.ofString "levels", Str.ofString "told", Str.ofString "way", Str.ofString "absent", Str.ofString "even"]
abbrev gsL : List Str := [Str.ofString "_law_beads", Str.ofString "len", Str.ofString "list", Str.ofString "_iter_escaped_chars", Str.ofString "_strip_quoted_realnames", Str.ofString "_law_units", Str.ofString "_law_counts", Str.ofString "rgb_to_hls", Str.ofString "_law_name", Str.ofString "_law_read", Str.ofString "Headers", Str.ofString "range", Str.ofString "str"]
def cutN (n i j : Nat) : Nat → Nat
  | 0 => 0 | 1 => i | 2 => i + j | 3 => j + n | _ => 2 * n
def pcs (ws : List Str) (n i j k : Nat) : List Str := (ws.drop (cutN n i j k)).take (cutN n i j (k + 1) - cutN n i j k)
def joinE (ps : List Str) : Str := Txt.join (Str.ofString "") ps
def txt (ws : List Str) (n i j : Nat) : Str := Txt.join quote ((List.range 4).map fun k => joinE (pcs ws n i j k))
def sideN (i j : Nat) : Nat := (i + j) % 2
def PcF (ws : List Str) (n i j : Nat) (k : Nat) (y : Value) (ob : Option Obj) : Prop := ∃ T m l, y = .ref T ∧ ob = some { cls := .type "list", dict := none, data := .seq (strValues l).toArray m, slots := #[] } ∧ l.map (·.1) = pcs ws n i j k
abbrev PcsAt (ws : List Str) (n i j : Nat) (zs : List (Value × Option Obj)) : Prop := Paired (fun k (z : Value × Option Obj) => PcF ws n i j k z.1 z.2) (List.range 4) zs
theorem pairedGet {α β : Type} {F : α → β → Prop} : ∀ {l₁ : List α} {l₂ : List β}, Paired F l₁ l₂ → ∀ (k : Nat) (a : α), l₁[k]? = some a → ∃ b, l₂[k]? = some b ∧ F a b
  | _, _, .nil, k, a, h => by simp at h
  | _, _, .cons f r, 0, a, h => by simp at h; subst h; exact ⟨_, rfl, f⟩
  | _, _, .cons f r, k + 1, a, h => by
    obtain ⟨b, e, q⟩ := pairedGet r k a (by simpa using h)
    exact ⟨b, by simpa using e, q⟩
theorem pcsGet {ws : List Str} {n i j : Nat} {zs : List (Value × Option Obj)} {D : Addr} {h : Heap} (P : PcsAt ws n i j zs) (Z : (rZ D zs).P h) {k : Nat} (hk : k < 4) : ∃ T l, (zVals zs).toArray[k]? = some (.ref T) ∧ h.PlainList T (strValues l).toArray ∧ l.map (·.1) = pcs ws n i j k := by
  obtain ⟨⟨v, ob⟩, e, T, m, l, h1, h2, h3⟩ := pairedGet P k k (by simp [hk])
  dsimp only at h1 h2
  subst h1 h2
  refine ⟨T, l, by simp [zVals, e], ⟨m, Z.2 T _ (List.mem_of_getElem? e)⟩, h3⟩
section
variable {w : World} {A : Around} {E : Value → Shared → Prop} {h₀ h : Heap} {env : Env} {L : Addr} {vs : List (Option Value)} {σ : List Reg} {g : Array GenState} {d : Drawn} {t : Nat} {os : OsState} {Q : Flow → Shared → Prop}
theorem side_val {i j : Nat} : ((i : Int) + (j : Int)).fmod 2 = ((sideN i j : Nat) : Int) := by
  unfold sideN
  rw [Int.fmod_eq_emod_of_nonneg _ (by decide)]
  omega
theorem execs_to {l l' : List Stmt} {env : Env} {Q : Flow → Shared → Prop} {s : Shared} (e : l = l') (h : wpAny (Md w) A (execs l' env) Q E s) : wpAny (Md w) A (execs l env) Q E s := e ▸ h
theorem lt_two (h : Heap) (o o' : Obj) : (h.push o).objs.size < ((h.push o).push o').objs.size := by rw [Heap.size_push (h.push o)]; exact Nat.lt_succ_self _
theorem rangeIt {ks : List Str} {vs : List (Option Value)} {n : Nat} {tk : Tok} {Q : Value → Shared → Prop} (S : Fm w h₀ L ks vs σ h) (hn : n ≤ 1000) (hq : ∀ h₁ h₂ I t', Fm w h₀ L ks vs σ h₁ → Keep h₁ h₂ → h₁.get? I = none → I < h₂.objs.size → IsRangeIter h₂ I 0 n 1 → Q (.ref I) (sh h₂ g d t' os)) :
    wpAny (Md w) A (call (.type "range") [.int (n : Int) tk]) (fun xv s₁ => wpAny (Md w) A (pyIter xv) Q E s₁) E (sh h g d t os) := by
  refine call_range_1 ?_
  refine wpAny_pyIter_range (IsRange.new ..) (small_one (by decide) (by decide) (by omega) (by omega)) ?_
  have hsize : Builtin.Range.rangeSize 0 (n : Int) 1 = (n : Int) := by rw [rangeSize_one]; split <;> omega
  rw [hsize]
  exact hq _ _ _ _ (S.kept (Keep.push h _)) (Keep.push _ _) (fresh_size _) (lt_two _ _ _) (Heap.get?_push_size _ rfl)
theorem listIt {ax : Addr} {items : Array Value} {Q : Value → Shared → Prop} (hl : h.IsList ax items) (hq : ∀ h₂ I, Keep h h₂ → h.get? I = none → ax ≠ I → (∀ b ∈ [I, ax], b < h₂.objs.size) → h₂.IsListIter I ax 0 → Q (.ref I) (sh h₂ g d t os)) :
    wpAny (Md w) A (pyIter (.ref ax)) Q E (sh h g d t os) := by
  refine wpAny_pyIter_list hl ?_
  have hax : ax < h.objs.size := by obtain ⟨o, e, _⟩ := hl; exact Heap.lt_size e
  refine hq _ _ (Keep.push _ _) (fresh_size h) (Nat.ne_of_lt hax) (fun b hb => ?_) ⟨_, Heap.get?_push_size _ rfl, rfl, rfl⟩
  rw [Heap.size_push]
  rcases List.mem_cons.mp hb with rfl | hb
  · exact Nat.lt_succ_self _
  · rw [List.mem_singleton.mp hb]; exact Nat.lt_succ_of_lt hax
def cutIt (n i j : Nat) (u : Nat → Tok) : Array Value := ((List.range 5).map fun k => Value.int ((cutN n i j k : Nat) : Int) (u k)).toArray
theorem cutGet {n i j : Nat} {u : Nat → Tok} {k : Nat} (hk : k < 5) : (cutIt n i j u)[k]? = some (.int ((cutN n i j k : Nat) : Int) (u k)) := by simp [cutIt, hk]
theorem cutIt_eq {n i j : Nat} (a b c e f : Tok) : [Value.int 0 a, .int (i : Int) b, .int ((i : Int) + j) c, .int ((j : Int) + n) e, .int (2 * (n : Int)) f].toArray = cutIt n i j (fun k => [a, b, c, e, f].getD k 0) := by
  have : List.range 5 = [0, 1, 2, 3, 4] := rfl
  unfold cutIt
  rw [this]
  simp [cutN]
theorem cutN_mono {n i j k : Nat} (hi : i ≤ n) (hj : j ≤ n) (hk : k < 4) : cutN n i j k ≤ cutN n i j (k + 1) ∧ cutN n i j (k + 1) ≤ 2 * n := by
  match k, hk with
  | 0, _ => simp only [cutN]; omega
  | 1, _ => simp only [cutN]; omega
  | 2, _ => simp only [cutN]; omega
  | 3, _ => simp only [cutN]; omega
theorem stA {k : Nat} (o : Ok (k + 20) A) (V : EnvOk env L ksL gsL) (Z : CE env L) {rest : List Stmt} {n i j : Nat} {tn ti tj : Tok} {x0 x2 x3 x4 x5 x6 x7 x8 x9 x12 x13 x14 x15 x16 x17 x18 x19 x20 x21 : Option Value} {sv cv : Option Value} {r0 r1 r4 r5 r6 r7 r8 r9 : Reg} {bl : Addr} {l : List (Str × Tok)} (hi : i < n) (hj : j ≤ n) (hn : n ≤ 4) (hl : l.length = 2 * n)
    (S : Fm w h₀ L ksL [x0, some (.int (n : Int) tn), x2, x3, x4, x5, x6, x7, x8, x9, some (.int (i : Int) ti), some (.int (j : Int) tj), x12, x13, x14, x15, x16, x17, x18, x19, x20, x21] [r0, r1, rC (L + 2) sv, rC (L + 3) cv, r4, r5, r6, r7, r8, r9, rP bl (strValues l).toArray, rC (L + 1) (some (.ref bl))] h)
    (hq : ∀ h' t' PD zs cu cuV ts, Fm w h₀ L ksL [x0, some (.int (n : Int) tn), x2, x3, x4, x5, x6, x7, x8, x9, some (.int (i : Int) ti), some (.int (j : Int) tj), some (.ref PD), x13, x14, x15, x16, x17, x18, x19, x20, x21] [rZ PD zs, rP cu cuV, r0, r1, rC (L + 2) (some (.int (sideN i j : Nat) ts)), rC (L + 3) (some (.ref cu)), r4, r5, r6, r7, r8, r9, rP bl (strValues l).toArray, rC (L + 1) (some (.ref bl))] h' →
      PcsAt (l.map (·.1)) n i j zs → wpAny (Md w) A (execs rest env) Q No (sh h' g d t' os)) :
    wpAny (Md w) A (execs (stAt inner 0 :: stAt inner 1 :: stAt inner 2 :: rest) env) Q No (sh h g d t os) := by
  refine wpAny_execs_cons ?_
  refine wpAny_Assign_Name ?_
  refine wpAny_BinOp ?_
  refine wpAny_BinOp ?_
  refine nm 10 V S rfl rfl ?_
  refine nm 11 V S rfl rfl ?_
  refine addI fun k1 t1 => ?_
  refine ci fun k2 t2 => ?_
  refine modI (by decide) fun k3 t3 => ?_
  rw [side_val]
  refine stc 2 S rfl V.kind Z.kd Z.cd fun h₂ S => ?_
  refine wpAny_execs_cons ?_
  refine wpAny_Assign_Name ?_
  refine List_ ?_
  refine spliced_more ?_
  refine ci fun k4 t4 => ?_
  refine spliced_more ?_
  refine nm 10 V S rfl rfl ?_
  refine spliced_more ?_
  refine wpAny_BinOp ?_
  refine nm 10 V S rfl rfl ?_
  refine nm 11 V S rfl rfl ?_
  refine addI fun k5 t5 => ?_
  refine spliced_more ?_
  refine wpAny_BinOp ?_
  refine nm 11 V S rfl rfl ?_
  refine nm 1 V S rfl rfl ?_
  refine addI fun k6 t6 => ?_
  refine spliced_more ?_
  refine wpAny_BinOp ?_
  refine ci fun k7 t7 => ?_
  refine nm 1 V S rfl rfl ?_
  refine mulI (IntMulOk.of_left (by decide)) fun k8 t8 => ?_
  refine spliced_none ?_
  refine newLS S (by simp) fun cu h₃ S _ _ => ?_
  have S := S.head (r' := rP cu (cutIt n i j fun k => [k4, ti, k5, k6, k8].getD k 0)) (congrArg (rP cu) (cutIt_eq k4 ti k5 k6 k8))
  generalize (fun k => [k4, ti, k5, k6, k8].getD k 0) = cuu at S
  refine stc 4 S rfl V.kind Z.kc Z.cc fun h₄ S => ?_
  refine wpAny_execs_cons ?_
  refine compAssign (cl := [(Str.ofString "cuts", L + 3), (Str.ofString "beads", L + 1)]) (swapsOk V 12 rfl rfl (by decide)) (clos2 rfl Z.cb Z.cc) rfl (by decide) ?_
  refine Call_Name1 (bi (v := .type "range") V S.tp (by decide) (by rfl) (by rfl) (by decide) (PySem.callWith_type1 ?_))
  refine ci fun k9 t9 => ?_
  refine rangeIt (n := 4) S (by decide) fun h₅ h₆ I t10 S k₆ hI hIs hIt => ?_
  refine compA (ksC := [Str.ofString "k"]) (gsC := []) 12 S (Src.ofWalks (ksC := [Str.ofString "k"]) (gsC := []) (I := I) (Walks.range o.hd I 0 1 4) (fun q h' st b hb => by rw [List.mem_singleton.mp hb]; exact ⟨_, st⟩) (fun b hb => by rw [List.mem_singleton.mp hb]; exact hI) 0 rfl) (by decide) (fun _ => true) (PcF (l.map (·.1)) n i j)
    (by decide +kernel) V k₆ (fun b hb => by rw [List.mem_singleton.mp hb]; exact hI) (fun b hb => by rw [List.mem_singleton.mp hb]; exact hIs) hIt rfl rfl (fun C q vs h' t' _ _ _ _ => testsNil) ?_ ?_
  · rintro C q vs h' t' hq4 _ VC S' ⟨v, ⟨tk, rfl⟩, hvs⟩
    have hcut := cutN_mono (n := n) (i := i) (j := j) (k := q) (by omega) (by omega) hq4
    rw [show (0 : Int) + (q : Int) * 1 = ((q : Nat) : Int) by omega] at hvs
    have hcu : h'.PlainList cu (cutIt n i j cuu) := (S.at 0 rfl : Heap.PlainList _ _ _).at fun o e => S'.keep _ _ e
    have hbl : h'.PlainList bl (strValues l).toArray := (S.at 11 rfl : Heap.PlainList _ _ _).at fun o e => S'.keep _ _ e
    have hcc : h'.IsCell (L + 3) (some (.ref cu)) := (S.at 4 rfl : (rC _ _).P _).keeps S'.keep
    have hcb : h'.IsCell (L + 1) (some (.ref bl)) := (S.at 12 rfl : (rC _ _).P _).keeps S'.keep
    have big : (strValues l).toArray.size = 2 * n := by simp [strValues, hl]
    refine sliceL ?_
    refine nmc (c := L + 1) (scopeOk.kind VC.sc) (lookup_relabel_free V.kind rfl Z.kb) rfl hcb rfl ?_
    refine evalPart_some_step ?_
    refine Subscript_ ?_
    refine nmc (c := L + 3) (scopeOk.kind VC.sc) (lookup_relabel_free V.kind rfl Z.kc) rfl hcc rfl ?_
    refine nm 0 VC S' rfl hvs ?_
    refine itemL (k := ((q : Nat) : Int)) hcu.isList (by omega) (by omega) (cutGet (k := q) (by omega)) ?_
    refine evalPart_some_step ?_
    refine Subscript_ ?_
    refine nmc (c := L + 3) (scopeOk.kind VC.sc) (lookup_relabel_free V.kind rfl Z.kc) rfl hcc rfl ?_
    refine wpAny_BinOp ?_
    refine nm 0 VC S' rfl hvs ?_
    refine ci fun k10 t11 => ?_
    refine addI fun k11 t12 => ?_
    refine itemL (k := (q : Int) + 1) hcu.isList (by omega) (by omega) (cutGet (k := q + 1) (by omega)) ?_
    refine ⟨bl, (strValues l).toArray, some ((cutN n i j q : Nat) : Int), some ((cutN n i j (q + 1) : Nat) : Int), rfl, hbl.isList, by rw [big, sizeLine_eq]; omega, .int _ _, .int _ _, fun D h'' t'' k'' hn'' hp'' => ?_⟩
    rw [slicePick_run _ _ _ (by rw [big]; exact hcut.2) hcut.1] at hp''
    have hsl : ((strValues l).toArray.toList.drop (cutN n i j q)).take (cutN n i j (q + 1) - cutN n i j q) = strValues ((l.drop (cutN n i j q)).take (cutN n i j (q + 1) - cutN n i j q)) := by
      simp [strValues, List.map_take, List.map_drop]
    rw [hsl] at hp''
    obtain ⟨m, hp''⟩ := hp''
    refine ⟨h'', t'', _, rfl, k'', ⟨D, m, _, rfl, rfl, ?_⟩, fun o e => ⟨D, rfl, by rw [← Option.some.inj e]; exact hp'', hn''⟩⟩
    simp [pcs, List.map_take, List.map_drop]
  · intro PD h' t' zs S hP
    rw [range_all] at hP
    exact hq h' t' PD zs cu _ _ S hP
end
end Mine
end
section
open PySem PySem.W PySem.W.X PyProof.Rows PySem.Calls PySem.SeqAt
set_option maxRecDepth 100000
set_option maxHeartbeats 2000000
namespace Mine

def inp (ws : List Str) (n i j : Nat) : Str := if sideN i j = 1 then quote ++ txt ws n i j else txt ws n i j ++ quote
def kept (ws : List Str) (n i j : Nat) : List Str := pcs ws n i j (sideN i j) ++ pcs ws n i j (sideN i j + 2)
/-- what one turn's texts must be -/
structure TxtOk (ws : List Str) (n i j : Nat) : Prop where
  jp : ∀ q, q < 4 → JoinOk (Str.ofString "") (pcs ws n i j q) = true
  jt : JoinOk quote ((List.range 4).map fun k => joinE (pcs ws n i j k)) = true
  js : JoinOk (Str.ofString "") (pcs ws n i j 0 ++ pcs ws n i j 2 ++ [quote] ++ pcs ws n i j 3) = true
  plen : ∀ q, q < 4 → (pcs ws n i j q).length ≤ 8
  ta : (txt ws n i j).cps.all (· < 128) = true
  tl : (txt ws n i j).length ≤ 90
  same : i = j → stripC (txt ws n i j) = joinE (pcs ws n i j 0 ++ pcs ws n i j 2 ++ [quote] ++ pcs ws n i j 3)
  ia : (inp ws n i j).cps.all (· < 128) = true
  il : (inp ws n i j).length ≤ 100
  sa : (stripC (inp ws n i j)).cps.all (· < 128) = true
  sl : (stripC (inp ws n i j)).length ≤ 100
  units : escL (stripC (inp ws n i j)).cps.toList 0 false = unitsL (kept ws n i j) 0
  wl : ∀ y ∈ kept ws n i j, (1 ≤ y.length ∧ y.length ≤ 2) ∧ (Txt.charAt y (-1)).isSome = true
section
variable {w : World} {A : Around} {E : Value → Shared → Prop} {h₀ h : Heap} {env : Env} {L : Addr} {vs : List (Option Value)} {σ : List Reg} {g : Array GenState} {d : Drawn} {t : Nat} {os : OsState} {Q : Flow → Shared → Prop}
theorem stB1 {k : Nat} (o : Ok (k + 20) A) (V : EnvOk env L ksL gsL) {rest : List Stmt} {n i j : Nat} {tn ti tj : Tok} {x0 x2 x3 x4 x5 x6 x7 x8 x9 x13 x14 x15 x16 x17 x18 x19 x20 x21 : Option Value} {ws : List Str} {PD : Addr} {zs : List (Value × Option Obj)} (K : TxtOk ws n i j) (hP : PcsAt ws n i j zs)
    (S : Fm w h₀ L ksL [x0, some (.int (n : Int) tn), x2, x3, x4, x5, x6, x7, x8, x9, some (.int (i : Int) ti), some (.int (j : Int) tj), some (.ref PD), x13, x14, x15, x16, x17, x18, x19, x20, x21] (rZ PD zs :: σ) h)
    (hq : ∀ h' t' tt, Fm w h₀ L ksL [x0, some (.int (n : Int) tn), x2, x3, x4, x5, x6, x7, x8, x9, some (.int (i : Int) ti), some (.int (j : Int) tj), some (.ref PD), some (.str (txt ws n i j) tt), x14, x15, x16, x17, x18, x19, x20, x21] (rZ PD zs :: σ) h' → wpAny (Md w) A (execs rest env) Q No (sh h' g d t' os)) :
    wpAny (Md w) A (execs (stAt inner 3 :: rest) env) Q No (sh h g d t os) := by
  have hz4 : (zVals zs).toArray.size = 4 := by have := hP.length; simpa [zVals] using this.symm
  have hpd : h.PlainList PD (zVals zs).toArray := (S.at 0 rfl : (rZ PD zs).P _).1
  refine wpAny_execs_cons ?_
  refine wpAny_Assign_Name ?_
  refine Call_method1 ?ca1 ?cb1 ?cc1 ?cd1
  case ca1 => exact rfl
  case cb1 => exact rfl
  case cc1 => exact rfl
  refine cs fun k1 t1 => ?_
  refine SB.join ?_
  refine compEval (cl := []) (closNone (by decide)) rfl (by decide) ?_
  refine nm 12 V S rfl rfl ?_
  refine listIt hpd.isList fun h₂ I k₂ hI hne hIs hIt => ?_
  refine compN (ksC := [Str.ofString "piece"]) (gsC := []) S (Src.list (ksC := [Str.ofString "piece"]) (gsC := []) (items := (zVals zs).toArray) (I := I) (ax := PD) o.hd hne hI 0 rfl) (by omega) (fun _ => true) (fun q y ob => ob = none ∧ ∃ tk, y = .str (joinE (pcs ws n i j q)) tk)
    (by decide +kernel) V k₂ (fun b hb => by rw [List.mem_singleton.mp hb]; exact hI) hIs ⟨hIt, hpd.isList.at fun o e => k₂ _ _ e⟩ (fun C q vs h' t' _ _ _ _ => testsNil) ?_ ?_
  · rintro C q vs h' t' hq4 _ VC S' ⟨v, hv, hvs⟩
    obtain ⟨T, l, e1, e2, e3⟩ := pcsGet hP (S.at 0 rfl : (rZ PD zs).P _) (k := q) (by omega)
    obtain rfl := Option.some.inj (e1.symm.trans hv)
    refine Call_method1 ?ca2 ?cb2 ?cc2 ?cd2
    case ca2 => exact rfl
    case cb2 => exact rfl
    case cc2 => exact rfl
    refine cs fun k3 t3 => ?_
    refine SB.join ?_
    refine (nm 0 VC S' rfl hvs ⟨T, l, rfl, (e2.at fun o e => S'.keep _ _ e).isList, _, e3, K.jp q (by omega), fun tk t' => ?_⟩)
    exact ⟨h', _, none, rfl, Keep.refl _, ⟨rfl, tk, rfl⟩, fun o e => nomatch e⟩
  · intro D h' t' zs' S hP'
    rw [range_all, hz4] at hP'
    obtain ⟨l, h1, h2⟩ := zStrs hP'
    have hD : h'.PlainList D (zVals zs').toArray := (S.at 0 rfl : (rZ D zs').P _).1
    rw [h1] at hD
    refine ⟨D, l, rfl, hD.isList, _, h2, K.jt, fun tk t4 => ?_⟩
    have S := S.drop 1
    refine st 13 V S rfl rfl fun h₃ t₃ S => ?_
    exact hq h₃ t₃ tk S
theorem stripW {k : Nat} (o : Ok (k + 20) A) (V : EnvOk env L ksL gsL) {x : Str} {e : Expr} {px pos : Pos} {Q : Value → Shared → Prop} (S : Fm w h₀ L ksL vs σ h) (hs : starEach [e] env = (false, eval e env) :: starEach [] env) (hx : x.cps.all (· < 128) = true) (hl : x.length ≤ 100)
    (he : ∀ Q' : Value → Shared → Prop, (∀ tk t', Q' (.str x tk) (sh h g d t' os)) → wpAny (Md w) A (eval e env) Q' No (sh h g d t os))
    (hq : ∀ h' g' t' tk, GG g g' → Keep h h' → Q (.str (stripC x) tk) (sh h' g' d t' os)) :
    wpAny (Md w) A (eval (.Call (.Name (Str.ofString "_strip_quoted_realnames") px) [e] [] pos) env) Q No (sh h g d t os) := by
  refine Call_ ?_
  refine gl V S.tp (by decide) rfl ?_
  obtain ⟨of, fd, hof, hfd⟩ : ∃ of fd, (hd.heap_39 w.params).lookup 52 = some of ∧ of.data = .func fd := ⟨_, _, rfl, rfl⟩
  refine callWith_def hfd (spliced_more (wpAny_mono (he (fun v s => ∃ tk t', v = .str x tk ∧ s = sh h g d t' os) fun tk t' => ⟨tk, t', rfl, rfl⟩) (fun v s hv => ?_) fun _ _ x => x) hs) hs
  obtain ⟨tk, t', rfl, rfl⟩ := hv
  refine spliced_none ⟨S.tp.inK _ _ hof, ?_⟩
  exact stripG (k := k + 12) o S.tp hx hl fun h' g' tk t' k' hg => hq h' g' t' tk hg k'
theorem subPc {n i j : Nat} {ws : List Str} {PD : Addr} {zs : List (Value × Option Obj)} (V : EnvOk env L ksL gsL) (S : Fm w h₀ L ksL vs σ h) {m : Nat} (hm : σ[m]? = some (rZ PD zs)) (hP : PcsAt ws n i j zs) (h12 : vs[12]? = some (some (.ref PD))) {q : Nat} (hq4 : q < 4) {e : Expr} {p1 pos : Pos} {Q : Value → Shared → Prop}
    (hs : ∀ u, subscripted e false (.ref PD) (.int (q : Int) u) = operate [.ref PD, .int (q : Int) u] (getItem (.ref PD) (.int (q : Int) u)))
    (hgt : eval (.Subscript (.Name (Str.ofString "pieces") p1) e pos) env = eval (.Subscript (.Name (Str.ofString "pieces") p1) e pos) env)
    (he : ∀ Q' : Value → Shared → Prop, (∀ tk t', Q' (.int (q : Int) tk) (sh h g d t' os)) → wpAny (Md w) A (eval e env) Q' E (sh h g d t os))
    (hq : ∀ T l t', h.PlainList T (strValues l).toArray → l.map (·.1) = pcs ws n i j q → Q (.ref T) (sh h g d t' os)) :
    wpAny (Md w) A (eval (.Subscript (.Name (Str.ofString "pieces") p1) e pos) env) Q E (sh h g d t os) := by
  have hZ := (S.at m hm : (rZ PD zs).P _)
  obtain ⟨T, l, e1, e2, e3⟩ := pcsGet hP hZ hq4
  refine Subscript_ ?_
  refine nm 12 V S rfl h12 ?_
  refine he _ fun tk t' => ?_
  exact itemL (k := (q : Int)) hZ.1.isList (by omega) (by omega) (by simpa using e1) (hq T l t' e2 e3) (hs tk)
theorem stB2 {k : Nat} (o : Ok (k + 20) A) (V : EnvOk env L ksL gsL) {rest : List Stmt} {n i j : Nat} {tn ti tj tt : Tok} {x0 x2 x3 x4 x5 x6 x7 x8 x9 x14 x15 x16 x17 x18 x19 x20 x21 : Option Value} {ws : List Str} {PD : Addr} {zs : List (Value × Option Obj)} (K : TxtOk ws n i j) (hP : PcsAt ws n i j zs)
    (S : Fm w h₀ L ksL [x0, some (.int (n : Int) tn), x2, x3, x4, x5, x6, x7, x8, x9, some (.int (i : Int) ti), some (.int (j : Int) tj), some (.ref PD), some (.str (txt ws n i j) tt), x14, x15, x16, x17, x18, x19, x20, x21] (rZ PD zs :: σ) h)
    (hq : ∀ h' g' t', GG g g' → Fm w h₀ L ksL [x0, some (.int (n : Int) tn), x2, x3, x4, x5, x6, x7, x8, x9, some (.int (i : Int) ti), some (.int (j : Int) tj), some (.ref PD), some (.str (txt ws n i j) tt), x14, x15, x16, x17, x18, x19, x20, x21] (rZ PD zs :: σ) h' → wpAny (Md w) A (execs rest env) Q No (sh h' g' d t' os)) :
    wpAny (Md w) A (execs (stAt inner 4 :: rest) env) Q No (sh h g d t os) := by
  refine wpAny_execs_cons ?_
  refine wpAny_If ?_
  refine isTrue_and ?_
  refine wpAny_isTrue_Compare1 ?_
  refine nm 10 V S rfl rfl ?_
  refine nm 11 V S rfl rfl ?_
  refine eqI (wpAny_truthy_bool ?_)
  by_cases hij : i = j
  · have hb : ((i : Int) == (j : Int)) = true := by simp [hij]
    rw [hb, if_pos rfl]
    refine isTrue_and ?_
    refine wpAny_isTrue_Compare1 ?_
    refine stripW o V S rfl K.ta (Nat.le_trans K.tl (by decide)) (fun Q' q => nm 13 V S rfl rfl (q _ _)) fun h₂ g₂ t₂ tk hg k₂ => ?_
    have S := S.kept k₂
    refine Call_method1 ?ca3 ?cb3 ?cc3 ?cd3
    case ca3 => exact rfl
    case cb3 => exact rfl
    case cc3 => exact rfl
    refine cs fun k1 t1 => ?_
    refine SB.join ?_
    refine wpAny_BinOp ?_
    refine wpAny_BinOp ?_
    refine wpAny_BinOp ?_
    refine subPc (m := 0) (q := 0) V S rfl hP rfl (by decide) (fun u => by with_unfolding_all rfl) rfl (fun Q' q => ci q) fun T0 l0 t3 hT0 hl0 => ?_
    refine subPc (m := 0) (q := 2) V S rfl hP rfl (by decide) (fun u => by with_unfolding_all rfl) rfl (fun Q' q => ci q) fun T2 l2 t4 hT2 hl2 => ?_
    have p0 : l0.length ≤ 8 := by have := K.plen 0 (by decide); rw [← hl0] at this; simpa using this
    have p2 : l2.length ≤ 8 := by have := K.plen 2 (by decide); rw [← hl2] at this; simpa using this
    refine addL hT0 hT2 (by simp [strValues]; omega) fun D1 h₃ k₃ hn₃ hD1 => ?_
    have S := S.kept k₃
    refine List_ ?_
    refine spliced_more (cs fun u9 t5 => ?_) se_const
    refine spliced_none (newLS S (by simp) fun D2 h₄ S' k₄ hn₄ => ?_)
    have hD2 : h₄.PlainList D2 (strValues [(quote, u9)]).toArray := S'.at 0 rfl
    have S := S'.drop 1
    refine addL (hD1.at fun o e => k₄ _ _ e) hD2 (by simp [strValues]; omega) fun D3 h₅ k₅ hn₅ hD3 => ?_
    have S := S.kept k₅
    refine subPc (m := 0) (q := 3) V S rfl hP rfl (by decide) (fun u => by with_unfolding_all rfl) rfl (fun Q' q => ci q) fun T3 l3 t6 hT3 hl3 => ?_
    have p3 : l3.length ≤ 8 := by have := K.plen 3 (by decide); rw [← hl3] at this; simpa using this
    refine addL hD3 hT3 (by simp [strValues]; omega) fun D4 h₆ k₆ hn₆ hD4 => ?_
    have S := S.kept k₆
    have e4 : ((strValues l0).toArray ++ (strValues l2).toArray ++ (strValues [(quote, u9)]).toArray ++ (strValues l3).toArray) = (strValues (l0 ++ l2 ++ [(quote, u9)] ++ l3)).toArray := by simp [strValues]
    rw [e4] at hD4
    have em : (l0 ++ l2 ++ [(quote, u9)] ++ l3).map (·.1) = pcs ws n i j 0 ++ pcs ws n i j 2 ++ [quote] ++ pcs ws n i j 3 := by
      rw [← hl0, ← hl2, ← hl3]; simp
    refine ⟨D4, _, rfl, hD4.isList, _, em, K.js, fun tk' t7 => ?_⟩
    refine PyProof.Rows.ne_str ?_
    have : (stripC (txt ws n i j) != Txt.join (Str.ofString "") (pcs ws n i j 0 ++ pcs ws n i j 2 ++ [quote] ++ pcs ws n i j 3)) = false := by
      rw [K.same hij]; exact bne_self_eq_false _
    rw [this]
    refine wpAny_truthy_bool ?_
    rw [if_neg (by decide), if_neg (by decide)]
    exact wpAny_execs_nil (hq h₆ g₂ t7 hg S)
  · have hb : ((i : Int) == (j : Int)) = false := by simp; omega
    rw [hb, if_neg (by decide), if_neg (by decide)]
    exact wpAny_execs_nil (hq h g t (GG.refl _) S)
end
end Mine
end
section
open PySem PySem.W PySem.W.X PyProof.Rows PySem.Calls PySem.SeqAt
set_option maxRecDepth 100000
set_option maxHeartbeats 2000000
namespace Mine

def ctIt (ws : List Str) (a b c : Tok) : Array Value := #[.int (cntK ws 0) a, .int (cntK ws 1) b, .int (cntK ws 2) c]
section
variable {w : World} {A : Around} {E : Value → Shared → Prop} {h₀ h : Heap} {env : Env} {L : Addr} {vs : List (Option Value)} {σ : List Reg} {g : Array GenState} {d : Drawn} {t : Nat} {os : OsState} {Q : Flow → Shared → Prop}
theorem stC1 {k : Nat} (o : Ok (k + 20) A) (V : EnvOk env L ksL gsL) (Z : CE env L) {rest : List Stmt} {n i j : Nat} {tn ti tj tt ts : Tok} {x0 x2 x3 x4 x5 x6 x7 x8 x9 x14 x15 x16 x17 x18 x19 x20 x21 : Option Value} {ws : List Str} {PD : Addr} {zs : List (Value × Option Obj)} (K : TxtOk ws n i j) (hP : PcsAt ws n i j zs)
    {ms : Nat} (hms : σ[ms]? = some (rC (L + 2) (some (.int (sideN i j : Nat) ts))))
    (S : Fm w h₀ L ksL [x0, some (.int (n : Int) tn), x2, x3, x4, x5, x6, x7, x8, x9, some (.int (i : Int) ti), some (.int (j : Int) tj), some (.ref PD), some (.str (txt ws n i j) tt), x14, x15, x16, x17, x18, x19, x20, x21] (rZ PD zs :: σ) h)
    (hq : ∀ h' g' t' tl UD Us, GG g g' → Fm w h₀ L ksL [x0, some (.int (n : Int) tn), x2, x3, x4, x5, x6, x7, x8, x9, some (.int (i : Int) ti), some (.int (j : Int) tj), some (.ref PD), some (.str (txt ws n i j) tt), some (.str (stripC (inp ws n i j)) tl), some (.ref UD), x16, x17, x18, x19, x20, x21] (rU UD Us (unitsL (kept ws n i j) 0) :: rZ PD zs :: σ) h' → wpAny (Md w) A (execs rest env) Q No (sh h' g' d t' os)) :
    wpAny (Md w) A (execs (stAt inner 5 :: stAt inner 6 :: rest) env) Q No (sh h g d t os) := by
  refine wpAny_execs_cons ?_
  refine wpAny_Assign_Name ?_
  refine stripW (x := inp ws n i j) o V S rfl K.ia K.il ?_ fun h₂ g₂ t₂ tk hg k₂ => ?_
  · intro Q' hq'
    refine IfExp_ ?_
    refine wpAny_isTrue_Compare1 ?_
    refine nmc V.kind Z.kd Z.cd (S.at (ms + 1) hms) rfl ?_
    refine ci fun k1 t1 => ?_
    refine eqI (wpAny_truthy_bool ?_)
    have tl : (txt ws n i j).length ≤ 90 := K.tl
    have ql : quote.length = 1 := by decide
    by_cases hs : sideN i j = 1
    · have hb : (((sideN i j : Nat) : Int) == 1) = true := by simp [hs]
      rw [hb, if_pos rfl]
      refine wpAny_BinOp ?_
      refine cs fun k2 t2 => ?_
      refine nm 13 V S rfl rfl ?_
      refine addS (by rw [ql, sizeLine_eq]; omega) fun tk t' => ?_
      have := hq' tk t'
      unfold inp at this
      rw [if_pos hs] at this
      exact this
    · have hb : (((sideN i j : Nat) : Int) == 1) = false := by simp; omega
      rw [hb, if_neg (by decide)]
      refine wpAny_BinOp ?_
      refine nm 13 V S rfl rfl ?_
      refine cs fun k2 t2 => ?_
      refine addS (by rw [ql, sizeLine_eq]; omega) fun tk t' => ?_
      have := hq' tk t'
      unfold inp at this
      rw [if_neg hs] at this
      exact this
  have S := S.kept k₂
  refine st 14 V S rfl rfl fun h₃ t₃ S => ?_
  refine wpAny_execs_cons ?_
  refine wpAny_Assign_Name ?_
  refine Call_Name1 (bi (v := .type "list") V S.tp (by decide) (by rfl) (by rfl) (by decide) (PySem.callWith_type1 ?_))
  refine Call_ ?_
  refine gl V S.tp (by decide) rfl ?_
  obtain ⟨of, fd, hof, hfd⟩ : ∃ of fd, (hd.heap_39 w.params).lookup 45 = some of ∧ of.data = .func fd := ⟨_, _, rfl, rfl⟩
  refine callWith_def hfd (spliced_more ?_)
  refine nm 14 V S rfl rfl ?_
  refine spliced_none ⟨S.tp.inK _ _ hof, ?_⟩
  refine genList (k := k + 12) o S.tp K.sa K.sl fun UD Us h₄ g₄ t₄ k₄ hU hn hT hg4 => ?_
  rw [K.units] at hU
  have S := S.add k₄ (rU UD Us (unitsL (kept ws n i j) 0)) hU (fun b hb => by
    rcases List.mem_cons.mp hb with rfl | hb
    · exact hn
    · exact hT b hb)
  refine st 15 V S rfl rfl fun h₅ t₅ S => ?_
  exact hq h₅ g₄ t₅ tk UD Us (hg.trans hg4) S
theorem stC2 {k : Nat} (o : Ok (k + 20) A) (V : EnvOk env L ksL gsL) (Z : CE env L) {rest : List Stmt} {n i j : Nat} {tn ti tj tt ts tl : Tok} {x0 x2 x3 x4 x5 x6 x7 x8 x9 x16 x17 x18 x19 x20 x21 : Option Value} {ws : List Str} {PD UD : Addr} {Us : List Addr} {zs : List (Value × Option Obj)} (K : TxtOk ws n i j) (hP : PcsAt ws n i j zs)
    {ms : Nat} (hms : σ[ms]? = some (rC (L + 2) (some (.int (sideN i j : Nat) ts))))
    (S : Fm w h₀ L ksL [x0, some (.int (n : Int) tn), x2, x3, x4, x5, x6, x7, x8, x9, some (.int (i : Int) ti), some (.int (j : Int) tj), some (.ref PD), some (.str (txt ws n i j) tt), some (.str (stripC (inp ws n i j)) tl), some (.ref UD), x16, x17, x18, x19, x20, x21] (rU UD Us (unitsL (kept ws n i j) 0) :: rZ PD zs :: σ) h)
    (hq : ∀ h' t', Fm w h₀ L ksL [x0, some (.int (n : Int) tn), x2, x3, x4, x5, x6, x7, x8, x9, some (.int (i : Int) ti), some (.int (j : Int) tj), some (.ref PD), some (.str (txt ws n i j) tt), some (.str (stripC (inp ws n i j)) tl), some (.ref UD), x16, x17, x18, x19, x20, x21] (rU UD Us (unitsL (kept ws n i j) 0) :: rZ PD zs :: σ) h' → wpAny (Md w) A (execs rest env) Q No (sh h' g d t' os)) :
    wpAny (Md w) A (execs (stAt inner 7 :: rest) env) Q No (sh h g d t os) := by
  have hs2 : sideN i j < 2 := Nat.mod_lt _ (by decide)
  refine wpAny_execs_cons ?_
  refine wpAny_If ?_
  refine wpAny_isTrue_Compare1 ?_
  refine nm 15 V S rfl rfl ?_
  refine Call_ ?_
  refine gl V S.tp (by decide) rfl ?_
  obtain ⟨of, fd, hof, hfd⟩ : ∃ of fd, (hd.heap_39 w.params).lookup 221 = some of ∧ of.data = .func fd := ⟨_, _, rfl, rfl⟩
  refine callWith_def hfd (spliced_more ?_)
  refine wpAny_BinOp ?_
  refine subPc (m := 1) (q := sideN i j) V S rfl hP rfl (by omega) (fun u => by with_unfolding_all rfl) rfl (fun Q' q => nmc V.kind Z.kd Z.cd (S.at (ms + 2) hms) rfl (q _ _)) fun T0 l0 t3 hT0 hl0 => ?_
  refine subPc (m := 1) (q := sideN i j + 2) V S rfl hP rfl (by omega) (fun u => by with_unfolding_all rfl) rfl (fun Q' q => wpAny_BinOp (nmc V.kind Z.kd Z.cd (S.at (ms + 2) hms) rfl (ci fun k1 t1 => addI q))) fun T2 l2 t4 hT2 hl2 => ?_
  have p0 : l0.length ≤ 8 := by have := K.plen (sideN i j) (by omega); rw [← hl0] at this; simpa using this
  have p2 : l2.length ≤ 8 := by have := K.plen (sideN i j + 2) (by omega); rw [← hl2] at this; simpa using this
  refine addL hT0 hT2 (by simp [strValues]; omega) fun D1 h₃ k₃ hn₃ hD1 => ?_
  have S := S.kept k₃
  refine spliced_none ⟨S.tp.inK _ _ hof, ?_⟩
  have e1 : (strValues l0).toArray ++ (strValues l2).toArray = (strValues (l0 ++ l2)).toArray := by simp [strValues]
  rw [e1] at hD1
  have em : (l0 ++ l2).map (·.1) = kept ws n i j := by rw [List.map_append, hl0, hl2]; rfl
  refine unitsCall (k := k + 16) o S.tp hD1.isList (fun y hy => (K.wl y (by rw [← em]; exact hy)).1) (by simp; omega) fun SS Ts h₄ t₅ k₄ hU hn hT => ?_
  rw [em] at hU
  have S := S.kept k₄
  have hUD := (S.at 0 rfl : (rU UD Us (unitsL (kept ws n i j) 0)).P _)
  refine neTups hUD.1.isList hU.1.isList hUD.2 hU.2 (by have := o.un; show _ < 9900; omega) ?_
  refine wpAny_truthy_bool ?_
  rw [if_neg (by decide)]
  exact wpAny_execs_nil (hq h₄ t₅ S)
theorem unitsL_snd (ws : List Str) : ∀ m, (unitsL ws m).map (·.2) = ws := by
  induction ws with
  | nil => intro m; rfl
  | cons a r ih => intro m; simp [unitsL, ih]
theorem stC3 {k : Nat} (o : Ok (k + 20) A) (V : EnvOk env L ksL gsL) (Z : CE env L) {rest : List Stmt} {n i j : Nat} {tn ti tj tt tl : Tok} {x0 x2 x3 x4 x5 x6 x7 x8 x9 x16 x17 x18 x19 x20 x21 : Option Value} {ws : List Str} {PD UD : Addr} {Us : List Addr} {zs : List (Value × Option Obj)} (K : TxtOk ws n i j)
    (S : Fm w h₀ L ksL [x0, some (.int (n : Int) tn), x2, x3, x4, x5, x6, x7, x8, x9, some (.int (i : Int) ti), some (.int (j : Int) tj), some (.ref PD), some (.str (txt ws n i j) tt), some (.str (stripC (inp ws n i j)) tl), some (.ref UD), x16, x17, x18, x19, x20, x21] (rU UD Us (unitsL (kept ws n i j) 0) :: rZ PD zs :: σ) h)
    (hq : ∀ h' t' CD a b c, Fm w h₀ L ksL [x0, some (.int (n : Int) tn), x2, x3, x4, x5, x6, x7, x8, x9, some (.int (i : Int) ti), some (.int (j : Int) tj), some (.ref PD), some (.str (txt ws n i j) tt), some (.str (stripC (inp ws n i j)) tl), some (.ref UD), some (.ref CD), x17, x18, x19, x20, x21] (rP CD (ctIt (kept ws n i j) a b c) :: σ) h' → wpAny (Md w) A (execs rest env) Q No (sh h' g d t' os)) :
    wpAny (Md w) A (execs (stAt inner 8 :: rest) env) Q No (sh h g d t os) := by
  have hUD := (S.at 0 rfl : (rU UD Us (unitsL (kept ws n i j) 0)).P _)
  have hUl := hUD.2.len
  have hlk : (kept ws n i j).length ≤ 16 := by
    have hs2 : sideN i j < 2 := Nat.mod_lt _ (by decide)
    have p0 := K.plen (sideN i j) (by omega)
    have p2 := K.plen (sideN i j + 2) (by omega)
    unfold kept; rw [List.length_append]; omega
  have hul : (unitsL (kept ws n i j) 0).length = (kept ws n i j).length := by
    have := congrArg List.length (unitsL_snd (kept ws n i j) 0)
    simpa using this
  refine wpAny_execs_cons ?_
  refine wpAny_Assign_Name ?_
  refine Call_ ?_
  refine gl V S.tp (by decide) rfl ?_
  obtain ⟨of, fd, hof, hfd⟩ : ∃ of fd, (hd.heap_39 w.params).lookup 226 = some of ∧ of.data = .func fd := ⟨_, _, rfl, rfl⟩
  refine callWith_def hfd (spliced_more ?_)
  refine compEval (cl := []) (closNone (by decide)) rfl (by decide) ?_
  refine nm 15 V S rfl rfl ?_
  refine listIt hUD.1.isList fun h₂ I k₂ hI hne hIs hIt => ?_
  have hTI : ∀ T ∈ Us, T ≠ I := fun T hT e => by
    obtain ⟨o', e'⟩ := hUD.2.alive T hT
    rw [e, hI] at e'; cases e'
  refine compN (ksC := [Str.ofString "place", Str.ofString "unit"]) (gsC := []) S (Src.tup (ksC := [Str.ofString "place", Str.ofString "unit"]) (gsC := []) (Ts := Us) (r := unitsL (kept ws n i j) 0) (I := I) (ax := UD) o.hd hne hI 0 1 rfl rfl (by decide) hTI) (by omega) (fun _ => true) (fun q y ob => ob = none ∧ ∃ tk, y = .str (((unitsL (kept ws n i j) 0).getD q (0, quote)).2) tk)
    (by decide +kernel) V k₂ (fun b hb => by rw [List.mem_singleton.mp hb]; exact hI) (fun b hb => ?_) ⟨hIt, hUD.1.isList.at fun o e => k₂ _ _ e, hUD.2.same (k₂.same _)⟩ (fun C q vs h' t' _ _ _ _ => testsNil) ?_ ?_
  · rcases List.mem_cons.mp hb with rfl | hb
    · exact hIs _ (by simp)
    · rcases List.mem_cons.mp hb with rfl | hb
      · exact hIs _ (by simp)
      · obtain ⟨o', e'⟩ := hUD.2.alive b hb
        exact Heap.lt_size (k₂ _ _ e')
  · rintro C q vs h' t' hq4 _ VC S' ⟨p, tu, hp, hvs⟩
    refine nm 1 VC S' rfl hvs ?_
    refine ⟨h', t', none, rfl, Keep.refl _, ⟨rfl, tu, ?_⟩, fun o e => nomatch e⟩
    simp [List.getD, hp]
  · intro D h' t' zs' S hP'
    rw [range_all] at hP'
    obtain ⟨l, h1, h2⟩ := zStrs hP'
    have hD : h'.PlainList D (zVals zs').toArray := (S.at 0 rfl : (rZ D zs').P _).1
    rw [h1] at hD
    have h3 : l.map (·.1) = kept ws n i j := by
      rw [h2, hUl]
      conv => rhs; rw [← unitsL_snd (kept ws n i j) 0]
      apply List.ext_getElem
      · simp
      · intro m m1 m2
        have : m < (unitsL (kept ws n i j) 0).length := by simpa using m1
        simp [List.getD, this]
    refine spliced_none ⟨S.tp.inK _ _ hof, ?_⟩
    refine countsCall (k := k + 16) o S.tp hD.isList (fun y hy => (K.wl y (by rw [← h3]; exact hy)).2) (by have := congrArg List.length h3; simp at this; omega) fun CD h₅ t₅ a b c k₅ hCD hn => ?_
    rw [h3] at hCD
    have S := S.drop 3
    have S := S.add k₅ (rP CD (ctIt (kept ws n i j) a b c)) hCD (fun b hb => by rw [List.mem_singleton.mp hb]; exact hn)
    refine st 16 V S rfl rfl fun h₆ t₆ S => ?_
    exact hq h₆ t₆ CD a b c S
end
end Mine
end
section
open PySem PySem.W PySem.W.X PyProof.Rows PySem.Calls PySem.SeqAt
set_option maxRecDepth 100000
set_option maxHeartbeats 2000000
namespace Mine

section
variable {w : World} {A : Around} {E : Value → Shared → Prop} {h₀ h h' h'' : Heap} {env : Env} {L : Addr} {ks gs : List Str} {vs : List (Option Value)} {σ : List Reg} {g : Array GenState} {d : Drawn} {t : Nat} {os : OsState} {Q : Value → Shared → Prop}
/-- a list whose items are first Us (tuples of another part), then Ts -/
def rTL (D : Addr) (Us Ts : List Addr) (ps : List (Str × Str)) : Reg where
  fp := D :: Ts
  P h := h.PlainList D ((Us ++ Ts).map Value.ref).toArray ∧ PairsAt h Ts ps
  fr := fun h h' p k => ⟨p.1.at fun o e => k D (List.mem_cons_self ..) o e, p.2.same fun b hb => k b (List.mem_cons_of_mem _ hb)⟩
  al := fun h p b hb => by
    rcases List.mem_cons.mp hb with rfl | hb
    · obtain ⟨n, e⟩ := p.1; exact ⟨_, e⟩
    · obtain ⟨_, e⟩ := p.2.tup b hb; exact ⟨_, e⟩
theorem ne_of_kinds {h : Heap} {D T : Addr} {xs ys : Array Value} (h1 : h.PlainList D xs) (h2 : h.get? T = some (tupleObj ys)) : T ≠ D := fun e => by
  obtain ⟨n, q⟩ := h1
  rw [← e, h2] at q
  injection q with q
  injection q with q
  injection q with q
  exact absurd q (by decide)
theorem Fm.pairApp (S : Fm w h₀ L ks vs σ h) (i : Nat) {D : Addr} {Us Ts : List Addr} {ps : List (Str × Str)} (hi : σ[i]? = some (rTL D Us Ts ps)) {T : Addr} {tk tu : Tok} {p : Str × Str} (hT : h'.get? T = some (tupleObj #[.str p.1 tk, .str p.2 tu])) (hn : h.get? T = none)
    (hk : ∀ b o, b ≠ D → h.get? b = some o → h'.get? b = some o) (hl : h'.PlainList D (((Us ++ Ts).map Value.ref).toArray.push (.ref T))) : Fm w h₀ L ks vs (σ.set i (rTL D Us (Ts ++ [T]) (ps ++ [p]))) h' := by
  have hP := S.at i hi
  have hne : ∀ b ∈ Ts, b ≠ D := fun b hb => by
    obtain ⟨xs, q⟩ := hP.2.tup b hb
    exact ne_of_kinds hP.1 q
  refine S.put i hi _ (fun b o hb e => hk b o (fun q => hb (by rw [q]; exact List.mem_cons_self ..)) e) ⟨?_, ?_⟩ (fun b hb => ?_)
  · rw [show (List.map Value.ref (Us ++ (Ts ++ [T]))).toArray = (List.map Value.ref (Us ++ Ts)).toArray.push (.ref T) by simp]; exact hl
  · exact (hP.2.same fun b hb o e => hk b o (hne b hb) e).app ⟨⟨tk, tu, hT⟩, trivial⟩
  · rcases List.mem_cons.mp hb with rfl | hb
    · exact .inl (List.mem_cons_self ..)
    · rcases List.mem_append.mp hb with hb | hb
      · exact .inl (List.mem_cons_of_mem _ hb)
      · rw [List.mem_singleton.mp hb]; exact .inr hn
def cutH (h : Heap) (a : Addr) : Heap := h.update a fun o => { o with data := .freed }
theorem cutH_ne {h : Heap} {a b : Addr} (e : b ≠ a) : (cutH h a).get? b = h.get? b := Heap.get?_update_other h _ (Ne.symm e)
theorem cutH_self (h : Heap) (a : Addr) : (cutH h a).get? a = none := by
  cases q : (cutH h a).get? a with
  | none => rfl
  | some o =>
    exfalso
    unfold cutH Heap.update Heap.get? at q
    obtain ⟨objs, l⟩ := h
    simp [Array.getElem?_modify] at q
    cases q' : objs[a]? with
    | none => rw [q'] at q; simp at q
    | some o' => rw [q'] at q; simp at q
theorem cutH_keep (h : Heap) (a : Addr) : Keep (cutH h a) h := fun b o e => by
  have : b ≠ a := fun q => by rw [q, cutH_self] at e; cases e
  rw [← cutH_ne this]; exact e
theorem addTab {k : Nat} {E : Value → Shared → Prop} {Q : Value → Shared → Prop} (o : Ok (k + 8) A) (S : Fm w h₀ L ks vs σ h) {x dx hl : Addr} {Us Ts : List Addr} {ps : List (Str × Str)} (mi ml : Nat) (hmi : σ[mi]? = some (rI x dx hl)) (hml : σ[ml]? = some (rTL hl Us Ts ps)) (hne : mi ≠ ml)
    {nam val : Str} {tn tv : Tok} (hsz : (Us ++ Ts).length ≤ 1000) (hn : okS nam = true) (hv : okS val = true)
    (hq : ∀ T h' t', Fm w h₀ L ks vs (σ.set ml (rTL hl Us (Ts ++ [T]) (ps ++ [(nam, val)]))) h' → Q .none (sh h' g d t' os)) :
    wpAny (Md w) A (call (.ref 200) [.ref x, .str nam tn, .str val tv]) Q E (sh h g d t os) := by
  have I := S.at mi hmi
  have hP := S.at ml hml
  have hled := (S.led ml _ hml).2 hl (List.mem_cons_self ..)
  have hxl : ∀ b ∈ (rI x dx hl).fp, b ≠ hl := fun b hb e => S.dj mi ml _ _ hne hmi hml b hb (by rw [e]; exact List.mem_cons_self ..)
  have k0 : Keep h₀ (cutH h hl) := fun b o e => by
    have : b ≠ hl := fun q => by rw [q, hled.2] at e; cases e
    rw [cutH_ne this]; exact S.keep b o e
  refine addCall (k := k) (hB := cutH h hl) (items := ((Us ++ Ts).map Value.ref).toArray) o (S.top.keep k0) (cutH_keep h hl) ((rI x dx hl).fr _ _ I fun b hb o e => by rw [cutH_ne (hxl b hb)]; exact e) (cutH_self h hl) hP.1 (by simpa using hsz) hn hv fun T h' t' t1 t2 kB hl' hT hTn hTl => ?_
  refine hq T h' t' (S.pairApp ml hml hT (by rw [← cutH_ne hTl]; exact hTn) (fun b o hb e => kB b o (by rw [cutH_ne hb]; exact e)) hl')
theorem methC0 {x dx hl f : Addr} {name : Str} {of : Obj} {fd : FuncData} {o : Expr} {apos pos : Pos} {y : Option Value} {pl : Sem Bool} (T : Tp w h) (I : (rI x dx hl).P h) (hf : nsIn (hd.heap_39 w.params) 202 name = some (some (.ref f))) (hfo : (hd.heap_39 w.params).lookup f = some of) (hfd : of.data = .func fd)
    (hfc : of.cls = .type "function") (hB : typeLookup (.type "object") name = pure y) (hsh : (name == Str.ofString "_headers") = false)
    (ho : ∀ Q' : Value → Shared → Prop, Q' (.ref x) (sh h g d t os) → wpAny (Md w) A (eval o env) Q' E (sh h g d t os))
    (hx : wpAny (Md w) A (call (.ref f) [.ref x]) Q E (sh h g d t os))
    (he : eval (.Call (.Attribute o name apos) [] [] pos) env = (do
      let ov ← eval o env
      standAt apos.atName
      let (f, first) ← holding [ov] (getMethod ov name pl)
      callWith pos f first (backTo pos (starEach [] env)) (backToKw pos (keywordEach [] env)))) :
    wpAny (Md w) A (eval (.Call (.Attribute o name apos) [] [] pos) env) Q E (sh h g d t os) := by
  refine MethodK (pl := pl) (ho _ (methI (y := y) T I hf hfo hfc hB hsh ?_)) he
  exact callWith_function (o := of) (fd := fd) (PySem.evalArgs_none ⟨⟨T.inK f _ hfo, hfd⟩, hx⟩)
theorem methC1 {x dx hl f : Addr} {name : Str} {of : Obj} {fd : FuncData} {o e : Expr} {apos pos : Pos} {y : Option Value} {pl : Sem Bool} (T : Tp w h) (I : (rI x dx hl).P h) (hf : nsIn (hd.heap_39 w.params) 202 name = some (some (.ref f))) (hfo : (hd.heap_39 w.params).lookup f = some of) (hfd : of.data = .func fd)
    (hfc : of.cls = .type "function") (hB : typeLookup (.type "object") name = pure y) (hsh : (name == Str.ofString "_headers") = false)
    (ho : ∀ Q' : Value → Shared → Prop, Q' (.ref x) (sh h g d t os) → wpAny (Md w) A (eval o env) Q' E (sh h g d t os))
    (hx : wpAny (Md w) A (eval e env) (fun v s₁ => Tp w s₁.heap ∧ wpAny (Md w) A (call (.ref f) [.ref x, v]) Q E s₁) E (sh h g d t os))
    (he : eval (.Call (.Attribute o name apos) [e] [] pos) env = (do
      let ov ← eval o env
      standAt apos.atName
      let (f, first) ← holding [ov] (getMethod ov name pl)
      callWith pos f first (backTo pos (starEach [e] env)) (backToKw pos (keywordEach [] env))))
    (hs : starEach [e] env = [(false, eval e env)]) :
    wpAny (Md w) A (eval (.Call (.Attribute o name apos) [e] [] pos) env) Q E (sh h g d t os) := by
  refine MethodK (pl := pl) (ho _ (methI (y := y) T I hf hfo hfc hB hsh ?_)) he
  rw [hs]
  exact callWith_function (o := of) (fd := fd) (Calls.evalArgs_plain (Calls.spliced_cons (wpAny_mono hx (fun v s₂ hv => Calls.spliced_nil ⟨⟨hv.1.inK f _ hfo, hfd⟩, hv.2⟩) fun _ _ x => x)))
theorem methC2 {x dx hl f : Addr} {name : Str} {of : Obj} {fd : FuncData} {o e₁ e₂ : Expr} {apos pos : Pos} {y : Option Value} {pl : Sem Bool} (T : Tp w h) (I : (rI x dx hl).P h) (hf : nsIn (hd.heap_39 w.params) 202 name = some (some (.ref f))) (hfo : (hd.heap_39 w.params).lookup f = some of) (hfd : of.data = .func fd)
    (hfc : of.cls = .type "function") (hB : typeLookup (.type "object") name = pure y) (hsh : (name == Str.ofString "_headers") = false)
    (ho : ∀ Q' : Value → Shared → Prop, Q' (.ref x) (sh h g d t os) → wpAny (Md w) A (eval o env) Q' E (sh h g d t os))
    (hx : wpAny (Md w) A (eval e₁ env) (fun v s₁ => wpAny (Md w) A (eval e₂ env) (fun u s₂ => Tp w s₂.heap ∧ wpAny (Md w) A (call (.ref f) [.ref x, v, u]) Q E s₂) E s₁) E (sh h g d t os))
    (he : eval (.Call (.Attribute o name apos) [e₁, e₂] [] pos) env = (do
      let ov ← eval o env
      standAt apos.atName
      let (f, first) ← holding [ov] (getMethod ov name pl)
      callWith pos f first (backTo pos (starEach [e₁, e₂] env)) (backToKw pos (keywordEach [] env))))
    (hs : starEach [e₁, e₂] env = [(false, eval e₁ env), (false, eval e₂ env)]) :
    wpAny (Md w) A (eval (.Call (.Attribute o name apos) [e₁, e₂] [] pos) env) Q E (sh h g d t os) := by
  refine MethodK (pl := pl) (ho _ (methI (y := y) T I hf hfo hfc hB hsh ?_)) he
  rw [hs]
  exact callWith_function (o := of) (fd := fd) (Calls.evalArgs_plain (Calls.spliced_cons (wpAny_mono hx (fun v s₂ hv => Calls.spliced_cons (wpAny_mono hv (fun u s₃ hu => Calls.spliced_nil ⟨⟨hu.1.inK f _ hfo, hfd⟩, hu.2⟩) fun _ _ x => x)) fun _ _ x => x)))
/-- a call of one of the module's defs -/
theorem callG2 {f : Addr} {of : Obj} {fd : FuncData} {x : Str} {px pos : Pos} {e₁ e₂ : Expr} (V : EnvOk env L ks gs) (T : Tp w h) (hg : x ∈ gs) (hn : nsIn (hd.heap_39 w.params) mainGlobals x = some (some (.ref f))) (hfo : (hd.heap_39 w.params).lookup f = some of) (hfd : of.data = .func fd)
    (h1 : starEach [e₁, e₂] env = (false, eval e₁ env) :: starEach [e₂] env) (h2 : starEach [e₂] env = (false, eval e₂ env) :: starEach [] env)
    (hx : wpAny (Md w) A (eval e₁ env) (fun v s₁ => wpAny (Md w) A (eval e₂ env) (fun u s₂ => Tp w s₂.heap ∧ wpAny (Md w) A (call (.ref f) [v, u]) Q E s₂) E s₁) E (sh h g d t os)) :
    wpAny (Md w) A (eval (.Call (.Name x px) [e₁, e₂] [] pos) env) Q E (sh h g d t os) := by
  refine Call_ (gl V T hg hn (callWith_def hfd (spliced_more (wpAny_mono hx (fun v s₁ hv => spliced_more (wpAny_mono hv (fun u s₂ hu => spliced_none ⟨hu.1.inK f _ hfo, hu.2⟩) fun _ _ x => x) h2) fun _ _ x => x) h1) h1))
theorem callG3 {f : Addr} {of : Obj} {fd : FuncData} {x : Str} {px pos : Pos} {e₁ e₂ e₃ : Expr} (V : EnvOk env L ks gs) (T : Tp w h) (hg : x ∈ gs) (hn : nsIn (hd.heap_39 w.params) mainGlobals x = some (some (.ref f))) (hfo : (hd.heap_39 w.params).lookup f = some of) (hfd : of.data = .func fd)
    (h1 : starEach [e₁, e₂, e₃] env = (false, eval e₁ env) :: starEach [e₂, e₃] env) (h2 : starEach [e₂, e₃] env = (false, eval e₂ env) :: starEach [e₃] env) (h3 : starEach [e₃] env = (false, eval e₃ env) :: starEach [] env)
    (hx : wpAny (Md w) A (eval e₁ env) (fun v s₁ => wpAny (Md w) A (eval e₂ env) (fun u s₂ => wpAny (Md w) A (eval e₃ env) (fun r s₃ => Tp w s₃.heap ∧ wpAny (Md w) A (call (.ref f) [v, u, r]) Q E s₃) E s₂) E s₁) E (sh h g d t os)) :
    wpAny (Md w) A (eval (.Call (.Name x px) [e₁, e₂, e₃] [] pos) env) Q E (sh h g d t os) := by
  refine Call_ (gl V T hg hn (callWith_def hfd (spliced_more (wpAny_mono hx (fun v s₁ hv => spliced_more (wpAny_mono hv (fun u s₂ hu => spliced_more (wpAny_mono hu (fun r s₃ hr => spliced_none ⟨hr.1.inK f _ hfo, hr.2⟩) fun _ _ x => x) h3) fun _ _ x => x) h2) fun _ _ x => x) h1) h1))
theorem callG1 {f : Addr} {of : Obj} {fd : FuncData} {x : Str} {px pos : Pos} {e₁ : Expr} (V : EnvOk env L ks gs) (T : Tp w h) (hg : x ∈ gs) (hn : nsIn (hd.heap_39 w.params) mainGlobals x = some (some (.ref f))) (hfo : (hd.heap_39 w.params).lookup f = some of) (hfd : of.data = .func fd)
    (h1 : starEach [e₁] env = (false, eval e₁ env) :: starEach [] env)
    (hx : wpAny (Md w) A (eval e₁ env) (fun v s₁ => Tp w s₁.heap ∧ wpAny (Md w) A (call (.ref f) [v]) Q E s₁) E (sh h g d t os)) :
    wpAny (Md w) A (eval (.Call (.Name x px) [e₁] [] pos) env) Q E (sh h g d t os) := by
  refine Call_ (gl V T hg hn (callWith_def hfd (spliced_more (wpAny_mono hx (fun v s₁ hv => spliced_none ⟨hv.1.inK f _ hfo, hv.2⟩) fun _ _ x => x) h1) h1))
end
end Mine
end
section
open PySem PySem.W PySem.W.X PyProof.Rows PySem.Calls PySem.SeqAt
set_option maxRecDepth 100000
set_option maxHeartbeats 2000000
namespace Mine

def cN (ws : List Str) (q : Nat) : Nat := (ws.map kI).count (q : Int)
def lvN (s c : Nat) : Nat := if s = 1 then 10 - c else 6 + c
theorem ctGet {ws : List Str} {a b c : Tok} {q : Nat} (hq : q < 3) : ∃ u, (ctIt ws a b c)[q]? = some (.int ((cN ws q : Nat) : Int) u) := by
  match q, hq with
  | 0, _ => exact ⟨a, rfl⟩
  | 1, _ => exact ⟨b, rfl⟩
  | 2, _ => exact ⟨c, rfl⟩
theorem ints3 : ∀ {xs : List Value} {a b c : Int}, IntsAre xs [a, b, c] → ∃ t1 t2 t3, xs = [.int a t1, .int b t2, .int c t3]
  | _, _, _, _, .cons _ t1 (.cons _ t2 (.cons _ t3 .nil)) => ⟨t1, t2, t3, rfl⟩
def wayS (i j : Nat) : Str := Str.ofString (toString (5 * (i : Int) + (j : Int)))
section
variable {w : World} {A : Around} {E : Value → Shared → Prop} {h₀ h : Heap} {env : Env} {L : Addr} {vs : List (Option Value)} {σ : List Reg} {g : Array GenState} {d : Drawn} {t : Nat} {os : OsState} {Q : Flow → Shared → Prop}
theorem stD1 {k : Nat} (o : Ok (k + 20) A) (V : EnvOk env L ksL gsL) (Z : CE env L) {rest : List Stmt} {n i j : Nat} {tn ti tj ts : Tok} {x0 x2 x3 x4 x5 x6 x7 x8 x9 x12 x13 x14 x15 x17 x18 x19 x20 x21 : Option Value} {ks : List Str} {CD : Addr} {a b c : Tok} (hc : ∀ q, q < 3 → cN ks q ≤ 4)
    {ms : Nat} (hms : σ[ms]? = some (rC (L + 2) (some (.int (sideN i j : Nat) ts))))
    (S : Fm w h₀ L ksL [x0, some (.int (n : Int) tn), x2, x3, x4, x5, x6, x7, x8, x9, some (.int (i : Int) ti), some (.int (j : Int) tj), x12, x13, x14, x15, some (.ref CD), x17, x18, x19, x20, x21] (rP CD (ctIt ks a b c) :: σ) h)
    (hq : ∀ h' t' LD zs, Fm w h₀ L ksL [x0, some (.int (n : Int) tn), x2, x3, x4, x5, x6, x7, x8, x9, some (.int (i : Int) ti), some (.int (j : Int) tj), x12, x13, x14, x15, some (.ref CD), some (.ref LD), x18, x19, x20, x21] (rZ LD zs :: rP CD (ctIt ks a b c) :: σ) h' → IntsAre (zVals zs) [((lvN (sideN i j) (cN ks 0) : Nat) : Int), ((lvN (sideN i j) (cN ks 1) : Nat) : Int), ((lvN (sideN i j) (cN ks 2) : Nat) : Int)] → wpAny (Md w) A (execs rest env) Q No (sh h' g d t' os)) :
    wpAny (Md w) A (execs (stAt inner 9 :: rest) env) Q No (sh h g d t os) := by
  have hCD := (S.at 0 rfl : Heap.PlainList _ _ _)
  refine wpAny_execs_cons ?_
  refine compAssign (cl := [(Str.ofString "side", L + 2)]) (swapsOk V 17 rfl rfl (by decide)) (clos1 rfl Z.cd) rfl (by decide) ?_
  refine nm 16 V S rfl rfl ?_
  refine listIt hCD.isList fun h₂ I k₂ hI hne hIs hIt => ?_
  refine compA (ksC := [Str.ofString "count"]) (gsC := []) 17 S (Src.list (ksC := [Str.ofString "count"]) (gsC := []) (items := ctIt ks a b c) (I := I) (ax := CD) o.hd hne hI 0 rfl) (show 3 ≤ 100000 by decide) (fun _ => true) (fun q y ob => ob = none ∧ ∃ tk, y = .int ((lvN (sideN i j) (cN ks q) : Nat) : Int) tk)
    (by decide +kernel) V k₂ (fun b hb => by rw [List.mem_singleton.mp hb]; exact hI) hIs ⟨hIt, hCD.isList.at fun o e => k₂ _ _ e⟩ rfl rfl (fun C q vs h' t' _ _ _ _ => testsNil) ?_ ?_
  · rintro C q vs h' t' hq3 _ VC S' ⟨v, hv, hvs⟩
    have hq3 : q < 3 := hq3
    obtain ⟨u, e1⟩ := ctGet (ws := ks) (a := a) (b := b) (c := c) hq3
    obtain rfl := Option.some.inj (e1.symm.trans hv)
    have hcs : h'.IsCell (L + 2) (some (.int (sideN i j : Nat) ts)) := (S.at (ms + 1) hms : (rC _ _).P _).keeps S'.keep
    have hcq := hc q hq3
    refine IfExp_ ?_
    refine wpAny_isTrue_Compare1 ?_
    refine nmc (c := L + 2) (scopeOk.kind VC.sc) (lookup_relabel_free V.kind rfl Z.kd) rfl hcs rfl ?_
    refine ci fun k1 t1 => ?_
    refine eqI (wpAny_truthy_bool ?_)
    by_cases hs : sideN i j = 1
    · have hb : (((sideN i j : Nat) : Int) == 1) = true := by simp [hs]
      rw [hb, if_pos rfl]
      refine wpAny_BinOp ?_
      refine ci fun k2 t2 => ?_
      refine nm 0 VC S' rfl hvs ?_
      refine subI fun tk t' => ?_
      refine ⟨h', t', none, rfl, Keep.refl _, ⟨rfl, tk, ?_⟩, fun o e => nomatch e⟩
      congr 1
      unfold lvN; rw [if_pos hs]; omega
    · have hb : (((sideN i j : Nat) : Int) == 1) = false := by simp; omega
      rw [hb, if_neg (by decide)]
      refine wpAny_BinOp ?_
      refine ci fun k2 t2 => ?_
      refine nm 0 VC S' rfl hvs ?_
      refine addI fun tk t' => ?_
      refine ⟨h', t', none, rfl, Keep.refl _, ⟨rfl, tk, ?_⟩, fun o e => nomatch e⟩
      congr 1
      unfold lvN; rw [if_neg hs]; omega
  · intro LD h' t' zs S hP
    rw [range_all] at hP
    exact hq h' t' LD zs S (zInts hP)
theorem lvN_ok {s c : Nat} (hc : c ≤ 4) : 6 ≤ lvN s c ∧ lvN s c ≤ 10 := by unfold lvN; split <;> omega
theorem stD2 {k : Nat} (o : Ok (k + 20) A) (V : EnvOk env L ksL gsL) {rest : List Stmt} {n i j : Nat} {tn ti tj : Tok} {x0 x2 x3 x4 x5 x6 x7 x8 x9 x12 x13 x14 x15 x18 x19 x20 x21 : Option Value} {CD LD : Addr} {zs : List (Value × Option Obj)} {x y z : Nat} (hx : x ≤ 10) (hy : y ≤ 10) (hz : z ≤ 10) (hok : hlsOk (lamp x) (lamp y) (lamp z) = true)
    (S : Fm w h₀ L ksL [x0, some (.int (n : Int) tn), x2, x3, x4, x5, x6, x7, x8, x9, some (.int (i : Int) ti), some (.int (j : Int) tj), x12, x13, x14, x15, some (.ref CD), some (.ref LD), x18, x19, x20, x21] (rZ LD zs :: σ) h) (hi : IntsAre (zVals zs) [(x : Int), (y : Int), (z : Int)])
    (hq : ∀ h' t' t1 t2 t3, Fm w h₀ L ksL [x0, some (.int (n : Int) tn), x2, some (.float (hlsC (lamp x) (lamp y) (lamp z)).1 t1), some (.float (hlsC (lamp x) (lamp y) (lamp z)).2.1 t2), some (.float (hlsC (lamp x) (lamp y) (lamp z)).2.2 t3), x6, x7, x8, x9, some (.int (i : Int) ti), some (.int (j : Int) tj), x12, x13, x14, x15, some (.ref CD), some (.ref LD), x18, x19, x20, x21] σ h' → wpAny (Md w) A (execs rest env) Q No (sh h' g d t' os)) :
    wpAny (Md w) A (execs (stAt inner 10 :: rest) env) Q No (sh h g d t os) := by
  have hLD := (S.at 0 rfl : (rZ LD zs).P _).1
  obtain ⟨u1, u2, u3, e⟩ := ints3 hi
  rw [e] at hLD
  obtain ⟨of, fd, hof, hfd⟩ : ∃ of fd, (hd.heap_39 w.params).lookup 59 = some of ∧ of.data = .func fd := ⟨_, _, rfl, rfl⟩
  refine wpAny_execs_cons ?_
  refine Assign_Tuple ?_
  refine callG3 V S.tp (by decide) rfl hof hfd rfl rfl rfl ?_
  refine wpAny_BinOp ?_
  refine Subscript_ ?_
  refine nm 17 V S rfl rfl ?_
  refine ci fun k1 t1 => ?_
  refine itemL (v := .int (x : Int) u1) hLD.isList (by decide) (by decide) rfl ?_
  refine ci fun k2 t2 => ?_
  refine div16 hx fun k3 t3 => ?_
  refine wpAny_BinOp ?_
  refine Subscript_ ?_
  refine nm 17 V S rfl rfl ?_
  refine ci fun k4 t4 => ?_
  refine itemL (v := .int (y : Int) u2) hLD.isList (by decide) (by decide) rfl ?_
  refine ci fun k5 t5 => ?_
  refine div16 hy fun k6 t6 => ?_
  refine wpAny_BinOp ?_
  refine Subscript_ ?_
  refine nm 17 V S rfl rfl ?_
  refine ci fun k7 t7 => ?_
  refine itemL (v := .int (z : Int) u3) hLD.isList (by decide) (by decide) rfl ?_
  refine ci fun k8 t8 => ?_
  refine div16 hz fun k9 t9 => ?_
  refine ⟨S.tp, ?_⟩
  refine hlsCall (k := k + 16) o S.tp hok fun T h' t' t1 t2 t3 kk hT hn => ?_
  have S := (S.drop 1).kept kk
  refine un3 3 4 5 V S o.hd ⟨_, hT, rfl, 0, rfl⟩ rfl (by simp) rfl (by simp) rfl (by simp) fun h₂ t₂ S => ?_
  exact hq h₂ t₂ t1 t2 t3 S
theorem stD3 {k : Nat} (o : Ok (k + 20) A) (V : EnvOk env L ksL gsL) (Z : CE env L) {rest : List Stmt} {n i j : Nat} {tn ti tj ts t1 t2 t3 : Tok} {x0 x2 x6 x7 x8 x9 x12 x13 x14 x15 x17 x18 x19 x20 x21 : Option Value} {hue light share : UInt64} {both spread place : Int} {c0 c1 c2 : Nat} (h0 : c0 ≤ 4) (h1 : c1 ≤ 4) (h2 : c2 ≤ 4)
    (R : Rd hue light share both spread place) (hrd : rdList both spread place = [((lvN (sideN i j) c0 : Nat) : Int), ((lvN (sideN i j) c1 : Nat) : Int), ((lvN (sideN i j) c2 : Nat) : Int)])
    {ms : Nat} (hms : σ[ms]? = some (rC (L + 2) (some (.int (sideN i j : Nat) ts))))
    (S : Fm w h₀ L ksL [x0, some (.int (n : Int) tn), x2, some (.float hue t1), some (.float light t2), some (.float share t3), x6, x7, x8, x9, some (.int (i : Int) ti), some (.int (j : Int) tj), x12, x13, x14, x15, some (.ref CD), x17, x18, x19, x20, x21] σ h)
    (hq : ∀ h' t' TD u1 u2 u3, Fm w h₀ L ksL [x0, some (.int (n : Int) tn), x2, some (.float hue t1), some (.float light t2), some (.float share t3), x6, x7, x8, x9, some (.int (i : Int) ti), some (.int (j : Int) tj), x12, x13, x14, x15, some (.ref CD), x17, some (.ref TD), x19, x20, x21] (rP TD #[.int (c0 : Int) u1, .int (c1 : Int) u2, .int (c2 : Int) u3] :: σ) h' → wpAny (Md w) A (execs rest env) Q No (sh h' g d t' os)) :
    wpAny (Md w) A (execs (stAt inner 11 :: rest) env) Q No (sh h g d t os) := by
  obtain ⟨of, fd, hof, hfd⟩ : ∃ of fd, (hd.heap_39 w.params).lookup 233 = some of ∧ of.data = .func fd := ⟨_, _, rfl, rfl⟩
  refine wpAny_execs_cons ?_
  refine compAssign (cl := [(Str.ofString "side", L + 2)]) (swapsOk V 18 rfl rfl (by decide)) (clos1 rfl Z.cd) rfl (by decide) ?_
  refine callG3 V S.tp (by decide) rfl hof hfd rfl rfl rfl ?_
  refine nm 3 V S rfl rfl ?_
  refine nm 4 V S rfl rfl ?_
  refine nm 5 V S rfl rfl ?_
  refine ⟨S.tp, ?_⟩
  refine readCall (k := k + 16) o S.tp R fun D l h₂ t4 k₂ hD hil hDn => ?_
  rw [hrd] at hil
  obtain ⟨u1, u2, u3, e⟩ := ints3 hil
  subst e
  have S := S.kept k₂
  refine listIt hD.isList fun h₃ I k₃ hI hne hIs hIt => ?_
  refine compA (ksC := [Str.ofString "level"]) (gsC := []) 18 S (Src.list (ksC := [Str.ofString "level"]) (gsC := []) (items := #[.int ((lvN (sideN i j) c0 : Nat) : Int) u1, .int ((lvN (sideN i j) c1 : Nat) : Int) u2, .int ((lvN (sideN i j) c2 : Nat) : Int) u3]) (I := I) (ax := D) o.hd hne hI 0 rfl) (show 3 ≤ 100000 by decide) (fun _ => true) (fun q y ob => ob = none ∧ ∃ tk, y = .int (([c0, c1, c2].getD q 0 : Nat) : Int) tk)
    (by decide +kernel) V k₃ (fun b hb => by rw [List.mem_singleton.mp hb]; exact hI) hIs ⟨hIt, hD.isList.at fun o e => k₃ _ _ e⟩ rfl rfl (fun C q vs h' t' _ _ _ _ => testsNil) ?_ ?_
  · rintro C q vs h' t' hq3 _ VC S' ⟨v, hv, hvs⟩
    have hq3 : q < 3 := hq3
    have hcs : h'.IsCell (L + 2) (some (.int (sideN i j : Nat) ts)) := (S.at ms hms : (rC _ _).P _).keeps S'.keep
    have hv' : ∃ u, v = .int ((lvN (sideN i j) ([c0, c1, c2].getD q 0) : Nat) : Int) u := by
      match q, hq3 with
      | 0, _ => exact ⟨u1, (Option.some.inj hv).symm⟩
      | 1, _ => exact ⟨u2, (Option.some.inj hv).symm⟩
      | 2, _ => exact ⟨u3, (Option.some.inj hv).symm⟩
    obtain ⟨u, rfl⟩ := hv'
    have hcq : [c0, c1, c2].getD q 0 ≤ 4 := by
      match q, hq3 with
      | 0, _ => exact h0
      | 1, _ => exact h1
      | 2, _ => exact h2
    generalize [c0, c1, c2].getD q 0 = c at hcq hvs
    refine IfExp_ ?_
    refine wpAny_isTrue_Compare1 ?_
    refine nmc (c := L + 2) (scopeOk.kind VC.sc) (lookup_relabel_free V.kind rfl Z.kd) rfl hcs rfl ?_
    refine ci fun k1 t1 => ?_
    refine eqI (wpAny_truthy_bool ?_)
    by_cases hs : sideN i j = 1
    · have hb : (((sideN i j : Nat) : Int) == 1) = true := by simp [hs]
      rw [hb, if_pos rfl]
      refine wpAny_BinOp ?_
      refine ci fun k2 t2 => ?_
      refine nm 0 VC S' rfl hvs ?_
      refine subI fun tk t' => ?_
      refine ⟨h', t', none, rfl, Keep.refl _, ⟨rfl, tk, ?_⟩, fun o e => nomatch e⟩
      congr 1
      unfold lvN; rw [if_pos hs]; omega
    · have hb : (((sideN i j : Nat) : Int) == 1) = false := by simp; omega
      rw [hb, if_neg (by decide)]
      refine wpAny_BinOp ?_
      refine nm 0 VC S' rfl hvs ?_
      refine ci fun k2 t2 => ?_
      refine subI fun tk t' => ?_
      refine ⟨h', t', none, rfl, Keep.refl _, ⟨rfl, tk, ?_⟩, fun o e => nomatch e⟩
      congr 1
      unfold lvN; rw [if_neg hs]; omega
  · intro TD h' t' zs S hP
    rw [range_all] at hP
    have hin : IntsAre (zVals zs) [(c0 : Int), (c1 : Int), (c2 : Int)] := zInts hP
    obtain ⟨v1, v2, v3, e⟩ := ints3 hin
    have hTD : (rP TD #[.int (c0 : Int) v1, .int (c1 : Int) v2, .int (c2 : Int) v3]).P h' := by
      have := (S.at 0 rfl : (rZ TD zs).P _).1
      rw [e] at this; exact this
    have hled := (S.led 0 _ rfl).2 TD (List.mem_cons_self ..)
    have hdj := fun m r hm => S.dj 0 (m + 1) (rZ TD zs) r (by omega) rfl hm TD (List.mem_cons_self ..)
    have S := (S.drop 1).adopt (rP TD #[.int (c0 : Int) v1, .int (c1 : Int) v2, .int (c2 : Int) v3]) hTD (fun b hb => by
      rw [List.mem_singleton.mp hb]
      exact ⟨hled.1, hled.2, fun m r hm => hdj m r hm⟩)
    exact hq h' t' TD v1 v2 v3 S
theorem stD4 {k : Nat} (o : Ok (k + 20) A) (V : EnvOk env L ksL gsL) {rest : List Stmt} {n i j : Nat} {tn ti tj : Tok} {x0 x2 x3 x4 x5 x6 x7 x8 x9 x12 x13 x14 x15 x16 x17 x18 x19 x20 x21 : Option Value} (hi : i ≤ 10) (hj : j ≤ 10)
    (S : Fm w h₀ L ksL [x0, some (.int (n : Int) tn), x2, x3, x4, x5, x6, x7, x8, x9, some (.int (i : Int) ti), some (.int (j : Int) tj), x12, x13, x14, x15, x16, x17, x18, x19, x20, x21] σ h)
    (hq : ∀ h' t' tw, Fm w h₀ L ksL [x0, some (.int (n : Int) tn), x2, x3, x4, x5, x6, x7, x8, x9, some (.int (i : Int) ti), some (.int (j : Int) tj), x12, x13, x14, x15, x16, x17, x18, some (.str (wayS i j) tw), x20, x21] σ h' → wpAny (Md w) A (execs rest env) Q No (sh h' g d t' os)) :
    wpAny (Md w) A (execs (stAt inner 12 :: rest) env) Q No (sh h g d t os) := by
  refine wpAny_execs_cons ?_
  refine wpAny_Assign_Name ?_
  refine Call_Name1 (bi (v := .type "str") V S.tp (by decide) (by rfl) (by rfl) (by decide) (PySem.callWith_type1 ?_))
  refine wpAny_BinOp ?_
  refine wpAny_BinOp ?_
  refine ci fun k1 t1 => ?_
  refine nm 10 V S rfl rfl ?_
  refine mulI (IntMulOk.of_left (by decide)) fun k2 t2 => ?_
  refine nm 11 V S rfl rfl ?_
  refine addI fun k3 t3 => ?_
  refine strI (by omega) fun tk t4 => ?_
  refine st 19 V S rfl rfl fun h₃ t₃ S => ?_
  exact hq h₃ t₃ tk S
end
end Mine
end
section
open PySem PySem.W PySem.W.X PyProof.Rows PySem.Calls PySem.SeqAt
set_option maxRecDepth 100000
set_option maxHeartbeats 2000000
namespace Mine

def nmC (c0 c1 c2 j : Nat) : Str := nameT (c0 : Int) (c1 : Int) (c2 : Int) (j : Int)
section
variable {w : World} {A : Around} {E : Value → Shared → Prop} {h₀ h : Heap} {env : Env} {L : Addr} {vs : List (Option Value)} {σ : List Reg} {g : Array GenState} {d : Drawn} {t : Nat} {os : OsState} {Q : Flow → Shared → Prop}
theorem stE1 {k : Nat} (o : Ok (k + 20) A) (V : EnvOk env L ksL gsL) {rest : List Stmt} {n i j : Nat} {tn ti tj tw u1 u2 u3 : Tok} {x0 x2 x3 x4 x5 x6 x7 x9 x12 x13 x14 x15 x16 x17 x20 x21 : Option Value} {x dx hl TD : Addr} {Us Ts : List Addr} {ps : List (Str × Str)} {c0 c1 c2 : Nat} (h0 : c0 ≤ 4) (h1 : c1 ≤ 4) (h2 : c2 ≤ 4)
    (mi ml : Nat) (hmi : σ[mi]? = some (rI x dx hl)) (hml : σ[ml]? = some (rTL hl Us Ts ps)) (hne : mi ≠ ml) (hsz : (Us ++ Ts).length ≤ 1000) (hn : okS (nmC c0 c1 c2 j) = true) (hv : okS (wayS i j) = true)
    (S : Fm w h₀ L ksL [x0, some (.int (n : Int) tn), x2, x3, x4, x5, x6, x7, some (.ref x), x9, some (.int (i : Int) ti), some (.int (j : Int) tj), x12, x13, x14, x15, x16, x17, some (.ref TD), some (.str (wayS i j) tw), x20, x21] (rP TD #[.int (c0 : Int) u1, .int (c1 : Int) u2, .int (c2 : Int) u3] :: σ) h)
    (hq : ∀ h' t' T, Fm w h₀ L ksL [x0, some (.int (n : Int) tn), x2, x3, x4, x5, x6, x7, some (.ref x), x9, some (.int (i : Int) ti), some (.int (j : Int) tj), x12, x13, x14, x15, x16, x17, some (.ref TD), some (.str (wayS i j) tw), x20, x21] (σ.set ml (rTL hl Us (Ts ++ [T]) (ps ++ [(nmC c0 c1 c2 j, wayS i j)]))) h' → wpAny (Md w) A (execs rest env) Q No (sh h' g d t' os)) :
    wpAny (Md w) A (execs (stAt inner 13 :: rest) env) Q No (sh h g d t os) := by
  have hTD := (S.at 0 rfl : Heap.PlainList _ _ _)
  obtain ⟨of, fd, hof, hfd, hfc⟩ : ∃ of fd, (hd.heap_39 w.params).lookup 200 = some of ∧ of.data = .func fd ∧ of.cls = .type "function" := ⟨_, _, rfl, rfl, rfl⟩
  obtain ⟨ol, fl, hol, hfl⟩ : ∃ of fd, (hd.heap_39 w.params).lookup 240 = some of ∧ of.data = .func fd := ⟨_, _, rfl, rfl⟩
  refine wpAny_execs_cons ?_
  refine wpAny_Expr ?_ V.inter
  refine methC2 (y := none) (f := 200) S.tp (S.at (mi + 1) hmi) rfl hof hfd hfc (by rw [typeLookup_type, builtinLookup_eq_fast]; kernel_rfl) (by decide) (fun Q' q => nm 8 V S rfl rfl q) ?_ rfl rfl
  refine callG2 V S.tp (by decide) rfl hol hfl rfl rfl ?_
  refine nm 18 V S rfl rfl ?_
  refine nm 11 V S rfl rfl ?_
  refine ⟨S.tp, ?_⟩
  refine lawName (k := k + 17) o S.tp hTD.isList ⟨by omega, by omega⟩ ⟨by omega, by omega⟩ ⟨by omega, by omega⟩ fun h₂ tk t₂ k₂ => ?_
  have S := S.kept k₂
  refine nm 19 V S rfl rfl ?_
  refine ⟨S.tp, ?_⟩
  refine addTab (k := k + 12) o S (mi + 1) (ml + 1) hmi hml (by omega) hsz hn hv fun T h₃ t₃ S => ?_
  exact hq h₃ t₃ T (S.drop 1)
theorem stE2 {k : Nat} (o : Ok (k + 20) A) (V : EnvOk env L ksL gsL) {rest : List Stmt} {n i j : Nat} {tn ti tj tw u1 u2 u3 : Tok} {x0 x2 x3 x4 x5 x6 x8 x9 x12 x13 x14 x15 x17 x18 x20 x21 : Option Value} {CD DD : Addr} {Us Ts : List Addr} {ps : List (Str × Str)} {c0 c1 c2 : Nat} (h0 : c0 ≤ 4) (h1 : c1 ≤ 4) (h2 : c2 ≤ 4)
    (md : Nat) (hmd : σ[md]? = some (rTL DD Us Ts ps)) (hsz : (Us ++ Ts).length ≤ 1000)
    (S : Fm w h₀ L ksL [x0, some (.int (n : Int) tn), x2, x3, x4, x5, x6, some (.ref DD), x8, x9, some (.int (i : Int) ti), some (.int (j : Int) tj), x12, x13, x14, x15, some (.ref CD), x17, x18, some (.str (wayS i j) tw), x20, x21] (rP CD #[.int (c0 : Int) u1, .int (c1 : Int) u2, .int (c2 : Int) u3] :: σ) h)
    (hq : ∀ h' t' T, Fm w h₀ L ksL [x0, some (.int (n : Int) tn), x2, x3, x4, x5, x6, some (.ref DD), x8, x9, some (.int (i : Int) ti), some (.int (j : Int) tj), x12, x13, x14, x15, some (.ref CD), x17, x18, some (.str (wayS i j) tw), x20, x21] (rP CD #[.int (c0 : Int) u1, .int (c1 : Int) u2, .int (c2 : Int) u3] :: σ.set md (rTL DD Us (Ts ++ [T]) (ps ++ [(nmC c0 c1 c2 j, wayS i j)]))) h' → wpAny (Md w) A (execs rest env) Q No (sh h' g d t' os)) :
    wpAny (Md w) A (execs (stAt inner 14 :: rest) env) Q No (sh h g d t os) := by
  have hCD := (S.at 0 rfl : Heap.PlainList _ _ _)
  obtain ⟨ol, fl, hol, hfl⟩ : ∃ of fd, (hd.heap_39 w.params).lookup 240 = some of ∧ of.data = .func fd := ⟨_, _, rfl, rfl⟩
  refine wpAny_execs_cons ?_
  refine wpAny_Expr ?_ V.inter
  have hDD : h.PlainList DD ((Us ++ Ts).map Value.ref).toArray := (S.at (md + 1) hmd : (rTL DD Us Ts ps).P _).1
  refine app1 (l := DD) ?qa ?qb ?qc (by rw [sizeLine_eq]; simp at hsz ⊢; omega) (fun Q' q => nm 7 V S rfl rfl q) hDD ?_
  case qa => exact rfl
  case qb => exact rfl
  case qc => exact rfl
  refine Tuple_ ?_
  refine spliced_more ?_
  refine callG2 V S.tp (by decide) rfl hol hfl rfl rfl ?_
  refine nm 16 V S rfl rfl ?_
  refine nm 11 V S rfl rfl ?_
  refine ⟨S.tp, ?_⟩
  refine lawName (k := k + 17) o S.tp hCD.isList ⟨by omega, by omega⟩ ⟨by omega, by omega⟩ ⟨by omega, by omega⟩ fun h₂ tk t₂ k₂ => ?_
  have S := S.kept k₂
  refine spliced_more ?_
  refine nm 19 V S rfl rfl ?_
  refine spliced_none ?_
  refine mkTup ?_ (two _ _)
  refine ⟨(S.kept (Keep.push _ _) |>.at (md + 1) hmd : (rTL DD Us Ts ps).P _).1, fun h₃ hl₃ hx₃ => ?_⟩
  have hT : (h₂.push (tupleObj #[.str (nmC c0 c1 c2 j) tk, .str (wayS i j) tw])).get? h₂.objs.size = some (tupleObj #[.str (nmC c0 c1 c2 j) tk, .str (wayS i j) tw]) := Heap.get?_push_size _ rfl
  have hTD : h₂.objs.size ≠ DD := ne_of_kinds ((S.kept (Keep.push _ _) |>.at (md + 1) hmd : (rTL DD Us Ts ps).P _).1) hT
  have S := S.pairApp (md + 1) hmd (p := (nmC c0 c1 c2 j, wayS i j)) (h' := h₃) (T := h₂.objs.size) (tk := tk) (tu := tw) (hx₃ _ _ hTD hT) (fresh_size h₂) (fun b o hb e => hx₃ b o hb (Heap.get?_push_of_some _ e)) hl₃
  exact hq h₃ _ _ S
theorem stE3 {k : Nat} (o : Ok (k + 20) A) (V : EnvOk env L ksL gsL) {rest : List Stmt} {n i j : Nat} {tn ti tj tw u1 u2 u3 : Tok} {x0 x3 x4 x5 x6 x7 x8 x12 x13 x14 x15 x17 x18 x20 x21 : Option Value} {CD FD WD : Addr} {c0 c1 c2 : Nat} {fl : List (Str × Tok)} {wv : List Value} {wi : List Int}
    (mf mw : Nat) (hmf : σ[mf]? = some (rP FD (strValues fl).toArray)) (hmw : σ[mw]? = some (rP WD wv.toArray)) (hwi : IntsAre wv wi) (hwl : wi.length = 3) (hsz : fl.length ≤ 1000)
    (S : Fm w h₀ L ksL [x0, some (.int (n : Int) tn), some (.ref WD), x3, x4, x5, x6, x7, x8, some (.ref FD), some (.int (i : Int) ti), some (.int (j : Int) tj), x12, x13, x14, x15, some (.ref CD), x17, x18, some (.str (wayS i j) tw), x20, x21] (rP CD #[.int (c0 : Int) u1, .int (c1 : Int) u2, .int (c2 : Int) u3] :: σ) h)
    (hq : ∀ h' t' fl', fl'.map (·.1) = fl.map (·.1) ++ (if [2 * (c0 : Int), 2 * (c1 : Int), 2 * (c2 : Int)] = wi then [wayS i j] else []) → Fm w h₀ L ksL [x0, some (.int (n : Int) tn), some (.ref WD), x3, x4, x5, x6, x7, x8, some (.ref FD), some (.int (i : Int) ti), some (.int (j : Int) tj), x12, x13, x14, x15, some (.ref CD), x17, x18, some (.str (wayS i j) tw), x20, x21] (σ.set mf (rP FD (strValues fl').toArray)) h' → wpAny (Md w) A (execs rest env) Q No (sh h' g d t' os)) :
    wpAny (Md w) A (execs (stAt inner 15 :: rest) env) Q No (sh h g d t os) := by
  have hCD := (S.at 0 rfl : Heap.PlainList _ _ _)
  refine wpAny_execs_cons ?_
  refine wpAny_If ?_
  refine wpAny_isTrue_Compare1 ?_
  refine compEval (cl := []) (closNone (by decide)) rfl (by decide) ?_
  refine nm 16 V S rfl rfl ?_
  refine listIt hCD.isList fun h₂ I k₂ hI hne hIs hIt => ?_
  refine compN (ksC := [Str.ofString "count"]) (gsC := []) S (Src.list (ksC := [Str.ofString "count"]) (gsC := []) (items := #[.int (c0 : Int) u1, .int (c1 : Int) u2, .int (c2 : Int) u3]) (I := I) (ax := CD) o.hd hne hI 0 rfl) (show 3 ≤ 100000 by decide) (fun _ => true) (fun q y ob => ob = none ∧ ∃ tk, y = .int (2 * (([c0, c1, c2].getD q 0 : Nat) : Int)) tk)
    (by decide +kernel) V k₂ (fun b hb => by rw [List.mem_singleton.mp hb]; exact hI) hIs ⟨hIt, hCD.isList.at fun o e => k₂ _ _ e⟩ (fun C q vs h' t' _ _ _ _ => testsNil) ?_ ?_
  · rintro C q vs h' t' hq3 _ VC S' ⟨v, hv, hvs⟩
    have hq3 : q < 3 := hq3
    have hv' : ∃ u, v = .int (([c0, c1, c2].getD q 0 : Nat) : Int) u := by
      match q, hq3 with
      | 0, _ => exact ⟨u1, (Option.some.inj hv).symm⟩
      | 1, _ => exact ⟨u2, (Option.some.inj hv).symm⟩
      | 2, _ => exact ⟨u3, (Option.some.inj hv).symm⟩
    obtain ⟨u, rfl⟩ := hv'
    refine wpAny_BinOp ?_
    refine ci fun k2 t2 => ?_
    refine nm 0 VC S' rfl hvs ?_
    refine mulI (IntMulOk.of_left (by decide)) fun tk t' => ?_
    exact ⟨h', t', none, rfl, Keep.refl _, ⟨rfl, tk, rfl⟩, fun o e => nomatch e⟩
  · intro D h' t' zs S hP
    rw [range_all] at hP
    have hin : IntsAre (zVals zs) [2 * (c0 : Int), 2 * (c1 : Int), 2 * (c2 : Int)] := zInts hP
    have hD : h'.PlainList D (zVals zs).toArray := (S.at 0 rfl : (rZ D zs).P _).1
    have hWD : h'.PlainList WD wv.toArray := S.at (mw + 2) hmw
    refine nm 2 V S rfl rfl ?_
    refine eqIntLists hD.isList hWD.isList hin hwi o.unitsOk (by rw [hwl]; rfl) ?_
    refine wpAny_truthy_bool ?_
    by_cases hb : [2 * (c0 : Int), 2 * (c1 : Int), 2 * (c2 : Int)] = wi
    · rw [decide_eq_true hb, if_pos rfl]
      refine wpAny_execs_cons ?_
      refine wpAny_Expr ?_ V.inter
      have hFD : h'.PlainList FD (strValues fl).toArray := S.at (mf + 2) hmf
      refine app1 (l := FD) ?qa ?qb ?qc (by rw [sizeLine_eq]; simp [strValues]; omega) (fun Q' q => nm 9 V S rfl rfl q) hFD ?_
      case qa => exact rfl
      case qb => exact rfl
      case qc => exact rfl
      refine nm 19 V S rfl rfl ?_
      refine ⟨hFD, fun h₃ hl₃ hx₃ => ?_⟩
      have e1 : (strValues fl).toArray.push (.str (wayS i j) tw) = (strValues (fl ++ [(wayS i j, tw)])).toArray := by simp [strValues]
      have S := S.put (mf + 2) hmf (rP FD (strValues (fl ++ [(wayS i j, tw)])).toArray) (h' := h₃) (fun b o hb e => hx₃ b o (fun q => hb (by rw [q]; exact List.mem_singleton.mpr rfl)) e) (by rw [← e1]; exact hl₃) (fun b hb => .inl hb)
      refine wpAny_execs_nil ?_
      exact hq h₃ _ _ (by rw [if_pos hb]; simp) (S.drop 2)
    · rw [decide_eq_false hb, if_neg (by decide)]
      refine wpAny_execs_nil ?_
      have S := S.put (mf + 2) hmf (rP FD (strValues fl).toArray) (h' := h') (fun b o hb e => e) (S.at (mf + 2) hmf) (fun b hb => .inl hb)
      exact hq h' _ fl (by rw [if_neg hb]; simp) (S.drop 2)
end
end Mine
end
section
open PySem PySem.W PySem.W.X PyProof.Rows PySem.Calls PySem.SeqAt
set_option maxRecDepth 100000
set_option maxHeartbeats 2000000
namespace Mine

theorem inner_eq : inner = [stAt inner 0, stAt inner 1, stAt inner 2, stAt inner 3, stAt inner 4, stAt inner 5, stAt inner 6, stAt inner 7, stAt inner 8, stAt inner 9, stAt inner 10, stAt inner 11, stAt inner 12, stAt inner 13, stAt inner 14, stAt inner 15] := rfl
def dueP (ws : List Str) (n i j : Nat) : Str × Str := (nmC (cN (kept ws n i j) 0) (cN (kept ws n i j) 1) (cN (kept ws n i j) 2) j, wayS i j)
def fairP (wi : List Int) (ws : List Str) (n i j : Nat) : Bool := decide ([2 * ((cN (kept ws n i j) 0 : Nat) : Int), 2 * ((cN (kept ws n i j) 1 : Nat) : Int), 2 * ((cN (kept ws n i j) 2 : Nat) : Int)] = wi)
structure TurnOk (ws : List Str) (n i j : Nat) : Prop extends TxtOk ws n i j where
  c : ∀ q, q < 3 → cN (kept ws n i j) q ≤ 4
  s : cN (kept ws n i j) 0 + cN (kept ws n i j) 1 + cN (kept ws n i j) 2 = 3 ∨ cN (kept ws n i j) 0 + cN (kept ws n i j) 1 + cN (kept ws n i j) 2 = 4
  on : okS (dueP ws n i j).1 = true
  ov : okS (wayS i j) = true
section
variable {w : World} {A : Around} {E : Value → Shared → Prop} {h₀ h : Heap} {env : Env} {L : Addr} {vs : List (Option Value)} {σ : List Reg} {g : Array GenState} {d : Drawn} {t : Nat} {os : OsState} {Q : Flow → Shared → Prop}
theorem innerStep {k : Nat} (o : Ok (k + 20) A) (V : EnvOk env L ksL gsL) (Z : CE env L) {n i j : Nat} {tn ti tj : Tok} {x0 x3 x4 x5 x6 x12 x13 x14 x15 x16 x17 x18 x19 x20 x21 : Option Value} {sv cv : Option Value} {r0 r1 r9 : Reg} {bl FD DD hA x dx WD : Addr} {l fl : List (Str × Tok)} {Us T1 T2 : List Addr} {ps : List (Str × Str)} {wv : List Value} {wi : List Int}
    (hi : i < n) (hj : j ≤ n) (hn : n ≤ 4) (hl : l.length = 2 * n) (K : TurnOk (l.map (·.1)) n i j) (hwi : IntsAre wv wi) (hwl : wi.length = 3) (hfl : fl.length ≤ 1000) (h1 : (Us ++ T1).length ≤ 1000) (h2 : (Us ++ T2).length ≤ 1000)
    (S : Fm w h₀ L ksL [x0, some (.int (n : Int) tn), some (.ref WD), x3, x4, x5, x6, some (.ref DD), some (.ref x), some (.ref FD), some (.int (i : Int) ti), some (.int (j : Int) tj), x12, x13, x14, x15, x16, x17, x18, x19, x20, x21] [r0, r1, rC (L + 2) sv, rC (L + 3) cv, rP FD (strValues fl).toArray, rTL DD Us T1 ps, rTL hA Us T2 ps, rI x dx hA, rP WD wv.toArray, r9, rP bl (strValues l).toArray, rC (L + 1) (some (.ref bl))] h)
    (hq : ∀ h' g' t' fl' Ta Tb sv' cv' y3 y4 y5 y12 y13 y14 y15 y16 y17 y18 y19, GG g g' → fl'.map (·.1) = fl.map (·.1) ++ (if fairP wi (l.map (·.1)) n i j then [wayS i j] else []) →
      Fm w h₀ L ksL [x0, some (.int (n : Int) tn), some (.ref WD), y3, y4, y5, x6, some (.ref DD), some (.ref x), some (.ref FD), some (.int (i : Int) ti), some (.int (j : Int) tj), y12, y13, y14, y15, y16, y17, y18, y19, x20, x21] [r0, r1, rC (L + 2) sv', rC (L + 3) cv', rP FD (strValues fl').toArray, rTL DD Us (T1 ++ [Ta]) (ps ++ [dueP (l.map (·.1)) n i j]), rTL hA Us (T2 ++ [Tb]) (ps ++ [dueP (l.map (·.1)) n i j]), rI x dx hA, rP WD wv.toArray, r9, rP bl (strValues l).toArray, rC (L + 1) (some (.ref bl))] h' → Q .next (sh h' g' d t' os)) :
    wpAny (Md w) A (execs inner env) Q No (sh h g d t os) := by
  rw [inner_eq]
  refine stA o V Z hi hj hn hl S fun h₁ t₁ PD zs cu cuV ts S hP => ?_
  refine stB1 o V K.toTxtOk hP S fun h₂ t₂ tt S => ?_
  refine stB2 o V K.toTxtOk hP S fun h₃ g₃ t₃ hg₃ S => ?_
  refine stC1 (ms := 3) o V Z K.toTxtOk hP rfl S fun h₄ g₄ t₄ tl UD Uz hg₄ S => ?_
  refine stC2 (ms := 3) o V Z K.toTxtOk hP rfl S fun h₅ t₅ S => ?_
  refine stC3 o V Z K.toTxtOk S fun h₆ t₆ CD a b c S => ?_
  refine stD1 (ms := 3) o V Z K.c rfl S fun h₇ t₇ LD zs' S hin => ?_
  have c0 := K.c 0 (by decide)
  have c1 := K.c 1 (by decide)
  have c2 := K.c 2 (by decide)
  have cs := K.s
  obtain ⟨hok, both, spread, place, R, hrd⟩ := light_back (lvN_ok (s := sideN i j) c0) (lvN_ok (s := sideN i j) c1) (lvN_ok (s := sideN i j) c2) (by unfold lvN; split <;> omega)
  refine stD2 o V (lvN_ok (s := sideN i j) c0).2 (lvN_ok (s := sideN i j) c1).2 (lvN_ok (s := sideN i j) c2).2 hok S hin fun h₈ t₈ f1 f2 f3 S => ?_
  refine stD3 (ms := 4) o V Z c0 c1 c2 R hrd rfl S fun h₉ t₉ TD u1 u2 u3 S => ?_
  refine stD4 o V (by omega) (by omega) S fun h10 t10 tw S => ?_
  refine stE1 o V c0 c1 c2 9 8 rfl rfl (by decide) h2 K.on K.ov S fun h11 t11 Ta S => ?_
  refine stE2 o V c0 c1 c2 6 rfl h1 S fun h12 t12 Tb S => ?_
  refine stE3 o V 5 9 rfl rfl hwi hwl hfl S fun h13 t13 fl' hfl' S => ?_
  refine wpAny_execs_nil ?_
  exact hq h13 _ t13 fl' Tb Ta _ _ _ _ _ _ _ _ _ _ _ _ _ (hg₃.trans hg₄) (by rw [hfl']; simp [fairP]) (S.drop 1)
end
end Mine
end
section
open PySem PySem.W PySem.W.X PyProof.Rows PySem.Calls PySem.SeqAt
set_option maxRecDepth 100000
set_option maxHeartbeats 2000000
namespace Mine

def row (i b : Nat) : List (Nat × Nat) := (List.range b).map fun c => (i, c + 1)
def idxs (n i : Nat) : List (Nat × Nat) := (List.range i).flatMap fun a => row a n
def duesL (ws : List Str) (n : Nat) (is : List (Nat × Nat)) : List (Str × Str) := is.map fun p => dueP ws n p.1 p.2
def fairL (wi : List Int) (ws : List Str) (n : Nat) (is : List (Nat × Nat)) : List Str := (is.filter fun p => fairP wi ws n p.1 p.2).map fun p => wayS p.1 p.2
theorem row_succ (i b : Nat) : row i (b + 1) = row i b ++ [(i, b + 1)] := by simp [row, List.range_succ]
theorem idxs_succ (n i : Nat) : idxs n (i + 1) = idxs n i ++ row i n := by simp [idxs, List.range_succ]
theorem duesL_snoc (ws : List Str) (n : Nat) (is : List (Nat × Nat)) (p : Nat × Nat) : duesL ws n (is ++ [p]) = duesL ws n is ++ [dueP ws n p.1 p.2] := by simp [duesL]
theorem fairL_snoc (wi : List Int) (ws : List Str) (n : Nat) (is : List (Nat × Nat)) (p : Nat × Nat) : fairL wi ws n (is ++ [p]) = fairL wi ws n is ++ (if fairP wi ws n p.1 p.2 = true then [wayS p.1 p.2] else []) := by
  unfold fairL
  rw [List.filter_append, List.map_append]
  congr 1
  by_cases h : fairP wi ws n p.1 p.2 = true <;> simp [h]
theorem row_len (i b : Nat) : (row i b).length = b := by simp [row]
theorem idxs_len (n i : Nat) : (idxs n i).length = i * n := by
  induction i with
  | zero => simp [idxs]
  | succ i ih => rw [idxs_succ, List.length_append, ih, row_len, Nat.succ_mul]
theorem fairL_len (wi : List Int) (ws : List Str) (n : Nat) (is : List (Nat × Nat)) : (fairL wi ws n is).length ≤ is.length := by
  unfold fairL; rw [List.length_map]; exact List.length_filter_le _ _
def outerB : List Stmt := bodyAt (stAt lawBody 9)
theorem outerB_eq : outerB = [stAt outerB 0] := rfl
section
variable {w : World} {A : Around} {E : Value → Shared → Prop} {h₀ h : Heap} {env : Env} {L : Addr} {vs : List (Option Value)} {σ : List Reg} {g : Array GenState} {d : Drawn} {t : Nat} {os : OsState} {Q : Flow → Shared → Prop}
theorem innerLoop {k : Nat} (o : Ok (k + 20) A) (V : EnvOk env L ksL gsL) (Z : CE env L) {n i : Nat} {tn ti : Tok} {x0 x3 x4 x5 x6 x11 x12 x13 x14 x15 x16 x17 x18 x19 x20 x21 : Option Value} {sv cv : Option Value} {r1 r9 : Reg} {bl FD DD hA x dx WD : Addr} {l fl : List (Str × Tok)} {Us T1 T2 : List Addr} {wv : List Value} {wi : List Int}
    (hi : i < n) (hn : n ≤ 4) (hl : l.length = 2 * n) (K : ∀ j, 1 ≤ j → j ≤ n → TurnOk (l.map (·.1)) n i j) (hwi : IntsAre wv wi) (hwl : wi.length = 3) (hU : Us.length ≤ 10)
    (S : Fm w h₀ L ksL [x0, some (.int (n : Int) tn), some (.ref WD), x3, x4, x5, x6, some (.ref DD), some (.ref x), some (.ref FD), some (.int (i : Int) ti), x11, x12, x13, x14, x15, x16, x17, x18, x19, x20, x21] (r1 :: [rC (L + 2) sv, rC (L + 3) cv, rP FD (strValues fl).toArray, rTL DD Us T1 (duesL (l.map (·.1)) n (idxs n i)), rTL hA Us T2 (duesL (l.map (·.1)) n (idxs n i)), rI x dx hA, rP WD wv.toArray, r9, rP bl (strValues l).toArray, rC (L + 1) (some (.ref bl))]) h) (hfl : fl.map (·.1) = fairL wi (l.map (·.1)) n (idxs n i))
    (hq : ∀ h' g' t' fl' T1' T2' sv' cv' y3 y4 y5 y11 y12 y13 y14 y15 y16 y17 y18 y19, GG g g' → fl'.map (·.1) = fairL wi (l.map (·.1)) n (idxs n (i + 1)) → Fm w h₀ L ksL [x0, some (.int (n : Int) tn), some (.ref WD), y3, y4, y5, x6, some (.ref DD), some (.ref x), some (.ref FD), some (.int (i : Int) ti), y11, y12, y13, y14, y15, y16, y17, y18, y19, x20, x21] (r1 :: [rC (L + 2) sv', rC (L + 3) cv', rP FD (strValues fl').toArray, rTL DD Us T1' (duesL (l.map (·.1)) n (idxs n (i + 1))), rTL hA Us T2' (duesL (l.map (·.1)) n (idxs n (i + 1))), rI x dx hA, rP WD wv.toArray, r9, rP bl (strValues l).toArray, rC (L + 1) (some (.ref bl))]) h' → Q .next (sh h' g' d t' os)) :
    wpAny (Md w) A (execs outerB env) Q No (sh h g d t os) := by
  rw [outerB_eq]
  refine wpAny_execs_cons ?_
  refine wpAny_For ?_
  refine Call_Name2 (bi (v := .type "range") V S.tp (by decide) (by rfl) (by rfl) (by decide) ?_)
  refine PyProof.Rows.callWith_type rfl (Calls.evalArgs_plain (Calls.spliced_cons ?_))
  refine ci fun k1 t1 => ?_
  refine Calls.spliced_cons ?_
  refine wpAny_BinOp ?_
  refine nm 1 V S rfl rfl ?_
  refine ci fun k2 t2 => ?_
  refine addI fun k3 t3 => ?_
  refine Calls.spliced_nil ?_
  refine call_range_2 ?_
  have sq : i * n ≤ 16 := Nat.le_trans (Nat.mul_le_mul (show i ≤ 4 by omega) hn) (by decide)
  refine forRange (a := 1) (b := (n : Int) + 1) (n := n) o.hd (by omega) (small_one (by decide) (by decide) (by omega) (by omega))
    (fun b vs σ g' => GG g g' ∧ ∃ fl' T1' T2' sv' cv' y3 y4 y5 y11 y12 y13 y14 y15 y16 y17 y18 y19, vs = [x0, some (.int (n : Int) tn), some (.ref WD), y3, y4, y5, x6, some (.ref DD), some (.ref x), some (.ref FD), some (.int (i : Int) ti), y11, y12, y13, y14, y15, y16, y17, y18, y19, x20, x21] ∧ σ = r1 :: [rC (L + 2) sv', rC (L + 3) cv', rP FD (strValues fl').toArray, rTL DD Us T1' (duesL (l.map (·.1)) n (idxs n i ++ row i b)), rTL hA Us T2' (duesL (l.map (·.1)) n (idxs n i ++ row i b)), rI x dx hA, rP WD wv.toArray, r9, rP bl (strValues l).toArray, rC (L + 1) (some (.ref bl))] ∧ fl'.map (·.1) = fairL wi (l.map (·.1)) n (idxs n i ++ row i b))
    ?_ ?_ (S.kept (Keep.push _ _)) ⟨GG.refl _, fl, T1, T2, sv, cv, x3, x4, x5, x11, x12, x13, x14, x15, x16, x17, x18, x19, rfl, by simp [row], by simpa [row] using hfl⟩ (IsRange.new ..)
  · rintro I b tk vs σ g' h' t' hb ⟨hg, fl', T1', T2', sv', cv', y3, y4, y5, y11, y12, y13, y14, y15, y16, y17, y18, y19, rfl, rfl, hfl'⟩ S
    refine wpAny_pure (wpAny_assign_Name (st 11 V S rfl rfl fun h₁ t₁ S => ?_))
    have e : (1 : Int) + (b : Int) = ((b + 1 : Nat) : Int) := by omega
    rw [e] at S
    have l1 := (S.at 5 rfl : (rTL DD Us T1' _).P _).2.len
    have l2 := (S.at 6 rfl : (rTL hA Us T2' _).P _).2.len
    have l3 := congrArg List.length hfl'
    have l4 := fairL_len wi (l.map (·.1)) n (idxs n i ++ row i b)
    simp only [duesL, List.length_map, List.length_append, idxs_len, row_len] at l1 l2 l3 l4
    refine innerStep (j := b + 1) o V Z hi (by omega) hn hl (K (b + 1) (by omega) (by omega)) hwi hwl (by omega) (by simp; omega) (by simp; omega) S fun h₂ g₂ t₂ fl₂ Ta Tb sv₂ cv₂ z3 z4 z5 z12 z13 z14 z15 z16 z17 z18 z19 hg₂ hf₂ S => ?_
    refine ⟨h₂, g₂, t₂, _, _, rfl, S, hg.trans hg₂, fl₂, T1' ++ [Ta], T2' ++ [Tb], sv₂, cv₂, _, _, _, _, _, _, _, _, _, _, _, _, rfl, ?_, ?_⟩
    · rw [row_succ, ← List.append_assoc, duesL_snoc]
    · rw [row_succ, ← List.append_assoc, fairL_snoc, hf₂, hfl']
  · rintro h' g' t' vs σ ⟨hg, fl', T1', T2', sv', cv', y3, y4, y5, y11, y12, y13, y14, y15, y16, y17, y18, y19, rfl, rfl, hfl'⟩ S
    refine wpAny_execs_nil ?_
    rw [← idxs_succ] at hfl' S
    exact hq h' g' t' fl' T1' T2' sv' cv' y3 y4 y5 y11 y12 y13 y14 y15 y16 y17 y18 y19 hg hfl' S
end
end Mine
end
section
open PySem PySem.W PySem.W.X PyProof.Rows PySem.Calls PySem.SeqAt
set_option maxRecDepth 100000
set_option maxHeartbeats 2000000
namespace Mine

section
variable {w : World} {A : Around} {E : Value → Shared → Prop} {h₀ h : Heap} {env : Env} {L : Addr} {vs : List (Option Value)} {σ : List Reg} {g : Array GenState} {d : Drawn} {t : Nat} {os : OsState} {Q : Flow → Shared → Prop}
theorem stOuter {k : Nat} (o : Ok (k + 20) A) (V : EnvOk env L ksL gsL) (Z : CE env L) {rest : List Stmt} {n : Nat} {tn : Tok} {x0 x3 x4 x5 x6 x10 x11 x12 x13 x14 x15 x16 x17 x18 x19 x20 x21 : Option Value} {sv cv : Option Value} {r9 : Reg} {bl FD DD hA x dx WD : Addr} {l fl : List (Str × Tok)} {Us T1 T2 : List Addr} {wv : List Value} {wi : List Int}
    (hn : n ≤ 4) (hl : l.length = 2 * n) (K : ∀ i j, i < n → 1 ≤ j → j ≤ n → TurnOk (l.map (·.1)) n i j) (hwi : IntsAre wv wi) (hwl : wi.length = 3) (hU : Us.length ≤ 10)
    (S : Fm w h₀ L ksL [x0, some (.int (n : Int) tn), some (.ref WD), x3, x4, x5, x6, some (.ref DD), some (.ref x), some (.ref FD), x10, x11, x12, x13, x14, x15, x16, x17, x18, x19, x20, x21] [rC (L + 2) sv, rC (L + 3) cv, rP FD (strValues fl).toArray, rTL DD Us T1 [], rTL hA Us T2 [], rI x dx hA, rP WD wv.toArray, r9, rP bl (strValues l).toArray, rC (L + 1) (some (.ref bl))] h) (hfl : fl.map (·.1) = [])
    (hq : ∀ h' g' t' fl' T1' T2' sv' cv' y3 y4 y5 y10 y11 y12 y13 y14 y15 y16 y17 y18 y19, GG g g' → fl'.map (·.1) = fairL wi (l.map (·.1)) n (idxs n n) → Fm w h₀ L ksL [x0, some (.int (n : Int) tn), some (.ref WD), y3, y4, y5, x6, some (.ref DD), some (.ref x), some (.ref FD), y10, y11, y12, y13, y14, y15, y16, y17, y18, y19, x20, x21] [rC (L + 2) sv', rC (L + 3) cv', rP FD (strValues fl').toArray, rTL DD Us T1' (duesL (l.map (·.1)) n (idxs n n)), rTL hA Us T2' (duesL (l.map (·.1)) n (idxs n n)), rI x dx hA, rP WD wv.toArray, r9, rP bl (strValues l).toArray, rC (L + 1) (some (.ref bl))] h' → wpAny (Md w) A (execs rest env) Q No (sh h' g' d t' os)) :
    wpAny (Md w) A (execs (stAt lawBody 9 :: rest) env) Q No (sh h g d t os) := by
  refine wpAny_execs_cons ?_
  refine wpAny_For ?_
  refine Call_Name1 (bi (v := .type "range") V S.tp (by decide) (by rfl) (by rfl) (by decide) (PySem.callWith_type1 ?_))
  refine nm 1 V S rfl rfl ?_
  refine call_range_1 ?_
  refine forRange (a := 0) (b := (n : Int)) (n := n) o.hd (by omega) (small_one (by decide) (by decide) (by omega) (by omega))
    (fun b vs σ g' => GG g g' ∧ ∃ fl' T1' T2' sv' cv' y3 y4 y5 y10 y11 y12 y13 y14 y15 y16 y17 y18 y19, vs = [x0, some (.int (n : Int) tn), some (.ref WD), y3, y4, y5, x6, some (.ref DD), some (.ref x), some (.ref FD), y10, y11, y12, y13, y14, y15, y16, y17, y18, y19, x20, x21] ∧ σ = [rC (L + 2) sv', rC (L + 3) cv', rP FD (strValues fl').toArray, rTL DD Us T1' (duesL (l.map (·.1)) n (idxs n b)), rTL hA Us T2' (duesL (l.map (·.1)) n (idxs n b)), rI x dx hA, rP WD wv.toArray, r9, rP bl (strValues l).toArray, rC (L + 1) (some (.ref bl))] ∧ fl'.map (·.1) = fairL wi (l.map (·.1)) n (idxs n b))
    ?_ ?_ (S.kept (Keep.push _ _)) ⟨GG.refl _, fl, T1, T2, sv, cv, x3, x4, x5, x10, x11, x12, x13, x14, x15, x16, x17, x18, x19, rfl, by simp [idxs, duesL], by simpa [idxs, fairL] using hfl⟩ (IsRange.new ..)
  · rintro I i tk vs σ g' h' t' hb ⟨hg, fl', T1', T2', sv', cv', y3, y4, y5, y10, y11, y12, y13, y14, y15, y16, y17, y18, y19, rfl, rfl, hfl'⟩ S
    refine wpAny_pure (wpAny_assign_Name (st 10 V S rfl rfl fun h₁ t₁ S => ?_))
    have e : (0 : Int) + (i : Int) = ((i : Nat) : Int) := by omega
    rw [e] at S
    refine innerLoop o V Z hb hn hl (fun j h1 h2 => K i j hb h1 h2) hwi hwl hU S hfl' fun h₂ g₂ t₂ fl₂ Ta Tb sv₂ cv₂ z3 z4 z5 z11 z12 z13 z14 z15 z16 z17 z18 z19 hg₂ hf₂ S => ?_
    exact ⟨h₂, g₂, t₂, _, _, rfl, S, hg.trans hg₂, fl₂, Ta, Tb, sv₂, cv₂, _, _, _, _, _, _, _, _, _, _, _, _, _, rfl, rfl, hf₂⟩
  · rintro h' g' t' vs σ ⟨hg, fl', T1', T2', sv', cv', y3, y4, y5, y10, y11, y12, y13, y14, y15, y16, y17, y18, y19, rfl, rfl, hfl'⟩ S
    exact hq h' g' t' fl' T1' T2' sv' cv' y3 y4 y5 y10 y11 y12 y13 y14 y15 y16 y17 y18 y19 hg hfl' S
end
end Mine
end
section
open PySem PySem.W PySem.W.X PyProof.Rows PySem.Calls PySem.SeqAt
set_option maxRecDepth 100000
set_option maxHeartbeats 2000000
namespace Mine

abbrev bsl : Str := Str.ofString "\\"
structure PreOk (ws : List Str) : Prop where
  pj : JoinOk (Str.ofString "") ws = true
  jl : (joinE ws).length ≤ 90
  la : (joinE ws ++ bsl).cps.all (· < 128) = true
  ll : (joinE ws ++ bsl).length ≤ 100
  sa : (stripC (joinE ws ++ bsl)).cps.all (· < 128) = true
  sl : (stripC (joinE ws ++ bsl)).length ≤ 100
  u0 : escL (stripC (joinE ws ++ bsl)).cps.toList 0 false = unitsL (ws ++ [bsl]) 0
  wl : ∀ y ∈ ws, (1 ≤ y.length ∧ y.length ≤ 2) ∧ (Txt.charAt y (-1)).isSome = true
section
variable {w : World} {A : Around} {E : Value → Shared → Prop} {h₀ h : Heap} {env : Env} {L : Addr} {vs : List (Option Value)} {σ : List Reg} {g : Array GenState} {d : Drawn} {t : Nat} {os : OsState} {Q : Flow → Shared → Prop}
theorem IntsAre.take' {vs : List Value} {ns : List Int} (h : IntsAre vs ns) (k : Nat) : IntsAre (vs.take k) (ns.take k) := h.take k
theorem stP0 {k : Nat} (o : Ok (k + 20) A) (V : EnvOk env L ksL gsL) (Z : CE env L) {rest : List Stmt} {a : Addr} {x1 x2 x3 x4 x5 x6 x7 x8 x9 x10 x11 x12 x13 x14 x15 x16 x17 x18 x19 x20 x21 : Option Value} {bv : Option Value} {xv : List Value} {ns : List Int}
    (hL : h₀.IsList a xv.toArray) (hI : IntsAre xv ns) (hlen : ns.length ≤ 63) (S : Fm w h₀ L ksL [some (.ref a), x1, x2, x3, x4, x5, x6, x7, x8, x9, x10, x11, x12, x13, x14, x15, x16, x17, x18, x19, x20, x21] (rC (L + 1) bv :: σ) h)
    (hq : ∀ h' t' bl l n, (n = 3 ∨ n = 4) → l.length = 2 * n → Beads (l.map (·.1)) → Fm w h₀ L ksL [some (.ref a), x1, x2, x3, x4, x5, x6, x7, x8, x9, x10, x11, x12, x13, x14, x15, x16, x17, x18, x19, x20, x21] (rP bl (strValues l).toArray :: rC (L + 1) (some (.ref bl)) :: σ) h' → wpAny (Md w) A (execs rest env) Q No (sh h' g d t' os)) :
    wpAny (Md w) A (execs (stAt lawBody 0 :: rest) env) Q No (sh h g d t os) := by
  obtain ⟨of, fd, hof, hfd⟩ : ∃ of fd, (hd.heap_39 w.params).lookup 214 = some of ∧ of.data = .func fd := ⟨_, _, rfl, rfl⟩
  have xl := hI.length
  refine wpAny_execs_cons ?_
  refine wpAny_Assign_Name ?_
  refine callG1 V S.tp (by decide) rfl hof hfd rfl ?_
  refine wpAny_BinOp ?_
  refine sliceL ?_
  refine nm 0 V S rfl rfl ?_
  refine evalPart_none_step ?_
  refine evalPart_some_step ?_
  refine ci fun k1 t1 => ?_
  refine ⟨a, xv.toArray, none, some ((4 : Nat) : Int), rfl, hL.at fun o e => S.keep _ _ e, by rw [sizeLine_eq]; simp; omega, .none, .int _ _, fun D1 h₁ t₂ k₁ hn₁ hD₁ => ?_⟩
  rw [slicePick_upto'] at hD₁
  have S := S.kept k₁
  refine sliceL ?_
  refine List_ ?_
  refine spliced_more (ci fun k2 t3 => ?_) se_const
  refine spliced_more (ci fun k3 t4 => ?_) se_const
  refine spliced_more (ci fun k4 t5 => ?_) se_const
  refine spliced_none ?_
  refine newLS S (by simp) fun D2 h₂ S k₂ hn₂ => ?_
  have hD₂ : h₂.PlainList D2 [.int 15 k2, .int 286 k3, .int 629 k4].toArray := S.at 0 rfl
  refine evalPart_some_step ?_
  refine Call_Name1 (bi (v := .builtin "len") V S.tp (by decide) (by rfl) (by rfl) (by decide) (PySem.callWith_builtin1 ?_))
  refine sliceL ?_
  refine nm 0 V S rfl rfl ?_
  refine evalPart_none_step ?_
  refine evalPart_some_step ?_
  refine ci fun k5 t6 => ?_
  refine ⟨a, xv.toArray, none, some ((4 : Nat) : Int), rfl, hL.at fun o e => S.keep _ _ e, by rw [sizeLine_eq]; simp; omega, .none, .int _ _, fun D3 h₃ t₇ k₃ hn₃ hD₃ => ?_⟩
  rw [slicePick_upto'] at hD₃
  have S := S.kept k₃
  refine lenL hD₃.isList (by simp; omega) fun k6 t8 => ?_
  refine evalPart_none_step ?_
  have hD₂' := hD₂.at fun o e => k₃ _ _ e
  have hsz4 : (xv.toArray.toList.take 4).toArray.size = min 4 xv.length := by simp
  rw [hsz4]
  refine ⟨D2, _, some ((min 4 xv.length : Nat) : Int), none, rfl, hD₂'.isList, by rw [sizeLine_eq]; simp, .int _ _, .none, fun D4 h₄ t₉ k₄ hn₄ hD₄ => ?_⟩
  rw [slicePick_from'] at hD₄
  have S := S.kept k₄
  have hD₁' := hD₁.at fun o e => k₄ _ _ (k₃ _ _ (k₂ _ _ e))
  refine addL hD₁' hD₄ (by simp; omega) fun D5 h₅ k₅ hn₅ hD₅ => ?_
  have S := S.kept k₅
  refine ⟨S.tp, ?_⟩
  have eD : (xv.toArray.toList.take 4).toArray ++ (([Value.int 15 k2, .int 286 k3, .int 629 k4].toArray.toList.drop (min 4 xv.length)).toArray) = (xv.take 4 ++ [Value.int 15 k2, .int 286 k3, .int 629 k4].drop (min 4 xv.length)).toArray := by simp
  rw [eD] at hD₅
  have hints : IntsAre (xv.take 4 ++ [Value.int 15 k2, .int 286 k3, .int 629 k4].drop (min 4 xv.length)) (ns.take 4 ++ [15, 286, 629].drop (min 4 xv.length)) :=
    (hI.take 4).append ((IntsAre.cons 15 k2 (.cons 286 k3 (.cons 629 k4 .nil))).drop _)
  have hnl : (ns.take 4 ++ ([15, 286, 629] : List Int).drop (min 4 xv.length)).length = 3 ∨ (ns.take 4 ++ ([15, 286, 629] : List Int).drop (min 4 xv.length)).length = 4 := by
    simp; omega
  refine beadsCall (k := k + 16) o S.tp hD₅.isList hints (by omega) fun bl l h₆ t10 k₆ hbl hB hll hnb => ?_
  have S := (S.drop 1).add k₆ (rP bl (strValues l).toArray) hbl (fun b hb => by rw [List.mem_singleton.mp hb]; exact hnb)
  refine stc 1 S rfl V.kind Z.kb Z.cb fun h₇ S => ?_
  exact hq h₇ _ bl l _ hnl hll hB S
theorem stP1 {k : Nat} (o : Ok (k + 20) A) (V : EnvOk env L ksL gsL) (Z : CE env L) {rest : List Stmt} {n : Nat} {x0 x1 x2 x3 x4 x5 x6 x7 x8 x9 x10 x11 x12 x13 x14 x15 x16 x17 x18 x19 x20 x21 : Option Value} {bl : Addr} {l : List (Str × Tok)} (hl : l.length = 2 * n) (hn : n ≤ 4)
    (S : Fm w h₀ L ksL [x0, x1, x2, x3, x4, x5, x6, x7, x8, x9, x10, x11, x12, x13, x14, x15, x16, x17, x18, x19, x20, x21] (rP bl (strValues l).toArray :: rC (L + 1) (some (.ref bl)) :: σ) h)
    (hq : ∀ h' t' tn, Fm w h₀ L ksL [x0, some (.int (n : Int) tn), x2, x3, x4, x5, x6, x7, x8, x9, x10, x11, x12, x13, x14, x15, x16, x17, x18, x19, x20, x21] (rP bl (strValues l).toArray :: rC (L + 1) (some (.ref bl)) :: σ) h' → wpAny (Md w) A (execs rest env) Q No (sh h' g d t' os)) :
    wpAny (Md w) A (execs (stAt lawBody 1 :: rest) env) Q No (sh h g d t os) := by
  have hbl := (S.at 0 rfl : Heap.PlainList _ _ _)
  have big : (strValues l).toArray.size = 2 * n := by simp [strValues, hl]
  refine wpAny_execs_cons ?_
  refine wpAny_Assign_Name ?_
  refine wpAny_BinOp ?_
  refine Call_Name1 (bi (v := .builtin "len") V S.tp (by decide) (by rfl) (by rfl) (by decide) (PySem.callWith_builtin1 ?_))
  refine nmc V.kind Z.kb Z.cb (S.at 1 rfl) rfl ?_
  refine lenL hbl.isList (by omega) fun k1 t1 => ?_
  refine ci fun k2 t2 => ?_
  rw [big]
  refine divI (by decide) (PyProof.noPylong_small (by decide)) fun k3 t3 => ?_
  have e : ((2 * n : Nat) : Int).fdiv 2 = (n : Int) := by
    rw [Int.fdiv_eq_ediv_of_nonneg _ (by decide)]; omega
  rw [e]
  refine st 1 V S rfl rfl fun h₂ t₂ S => ?_
  exact hq h₂ t₂ k3 S
theorem stP2 {k : Nat} (o : Ok (k + 20) A) (V : EnvOk env L ksL gsL) (Z : CE env L) {rest : List Stmt} {x0 x1 x2 x3 x4 x5 x6 x7 x8 x9 x10 x11 x12 x13 x14 x15 x16 x17 x18 x19 x20 x21 : Option Value} {bl : Addr} {l : List (Str × Tok)} (P : PreOk (l.map (·.1))) (hlen : l.length ≤ 8)
    (S : Fm w h₀ L ksL [x0, x1, x2, x3, x4, x5, x6, x7, x8, x9, x10, x11, x12, x13, x14, x15, x16, x17, x18, x19, x20, x21] (rP bl (strValues l).toArray :: rC (L + 1) (some (.ref bl)) :: σ) h)
    (hq : ∀ h' g' t', GG g g' → Fm w h₀ L ksL [x0, x1, x2, x3, x4, x5, x6, x7, x8, x9, x10, x11, x12, x13, x14, x15, x16, x17, x18, x19, x20, x21] (rP bl (strValues l).toArray :: rC (L + 1) (some (.ref bl)) :: σ) h' → wpAny (Md w) A (execs rest env) Q No (sh h' g' d t' os)) :
    wpAny (Md w) A (execs (stAt lawBody 2 :: rest) env) Q No (sh h g d t os) := by
  have hbl := (S.at 0 rfl : Heap.PlainList _ _ _)
  obtain ⟨of, fd, hof, hfd⟩ : ∃ of fd, (hd.heap_39 w.params).lookup 45 = some of ∧ of.data = .func fd := ⟨_, _, rfl, rfl⟩
  obtain ⟨oe, fe, hoe, hfe⟩ : ∃ of fd, (hd.heap_39 w.params).lookup 221 = some of ∧ of.data = .func fd := ⟨_, _, rfl, rfl⟩
  refine wpAny_execs_cons ?_
  refine wpAny_If ?_
  refine wpAny_isTrue_Compare1 ?_
  refine Call_Name1 (bi (v := .type "list") V S.tp (by decide) (by rfl) (by rfl) (by decide) (PySem.callWith_type1 ?_))
  refine Call_ ?_
  refine gl V S.tp (by decide) rfl ?_
  refine callWith_def hfd (spliced_more ?_)
  have lq : bsl.length = 1 := by decide
  refine stripW (x := joinE (l.map (·.1)) ++ bsl) o V S rfl P.la P.ll ?_ fun h₂ g₂ t₂ tk hg k₂ => ?_
  · intro Q' hq'
    refine wpAny_BinOp ?_
    refine Call_method1 ?ca1 ?cb1 ?cc1 ?cd1
    case ca1 => exact rfl
    case cb1 => exact rfl
    case cc1 => exact rfl
    refine cs fun k1 t1 => ?_
    refine SB.join ?_
    refine nmc V.kind Z.kb Z.cb (S.at 1 rfl) rfl ⟨bl, l, rfl, hbl.isList, _, rfl, P.pj, fun tk t' => ?_⟩
    refine cs fun k2 t2 => ?_
    exact addS (by have := P.jl; unfold joinE at this; rw [lq, sizeLine_eq]; omega) fun tk t' => hq' tk t'
  have S := S.kept k₂
  refine spliced_none ⟨S.tp.inK _ _ hof, ?_⟩
  refine genList (k := k + 12) o S.tp P.sa P.sl fun UD Us h₄ g₄ t₄ k₄ hU hn hT hg4 => ?_
  rw [P.u0] at hU
  have S := S.kept k₄
  refine Call_ ?_
  refine gl V S.tp (by decide) rfl ?_
  refine callWith_def hfe (spliced_more ?_)
  refine wpAny_BinOp ?_
  refine nmc V.kind Z.kb Z.cb (S.at 1 rfl) rfl ?_
  refine List_ ?_
  refine spliced_more (cs fun u9 t5 => ?_) se_const
  refine spliced_none ?_
  refine newLS S (by simp) fun D2 h₅ S' k₅ hn₅ => ?_
  have hD2 : h₅.PlainList D2 (strValues [(bsl, u9)]).toArray := S'.at 0 rfl
  have S := S'.drop 1
  have hbl' := (S.at 0 rfl : Heap.PlainList _ _ _)
  refine addL hbl' hD2 (by simp [strValues]; omega) fun D3 h₆ k₆ hn₆ hD3 => ?_
  have S := S.kept k₆
  have e1 : (strValues l).toArray ++ (strValues [(bsl, u9)]).toArray = (strValues (l ++ [(bsl, u9)])).toArray := by simp [strValues]
  rw [e1] at hD3
  have em : (l ++ [(bsl, u9)]).map (·.1) = l.map (·.1) ++ [bsl] := by simp
  refine spliced_none ⟨S.tp.inK _ _ hoe, ?_⟩
  refine unitsCall (k := k + 16) o S.tp hD3.isList (fun y hy => by
    rw [em] at hy
    rcases List.mem_append.mp hy with hy | hy
    · exact (P.wl y hy).1
    · rw [List.mem_singleton.mp hy]; decide) (by simp; omega) fun SS Ts h₇ t₇ k₇ hV hn hT => ?_
  rw [em] at hV
  have S := S.kept k₇
  have hU' := (rU UD Us (unitsL (l.map (·.1) ++ [bsl]) 0)).fr _ _ hU (((k₅.trans k₆).trans k₇).same _)
  refine neTups hU'.1.isList hV.1.isList hU'.2 hV.2 (by have := o.un; show _ < 9900; omega) ?_
  refine wpAny_truthy_bool ?_
  rw [if_neg (by decide)]
  exact wpAny_execs_nil (hq h₇ g₄ t₇ (hg.trans hg4) S)
end
end Mine
end
section
open PySem PySem.W PySem.W.X PyProof.Rows PySem.Calls PySem.SeqAt
set_option maxRecDepth 100000
set_option maxHeartbeats 2000000
namespace Mine

/-- the four first pairs -/
def four (nam : Str) : List (Str × Str) := [(nam ++ Str.ofString "r", Str.ofString "x"), (Str.ofString "r" ++ nam, Str.ofString "x"), (Txt.slice nam (some 1) none, Str.ofString "x"), (Txt.slice nam none (some (-1)), Str.ofString "x")]
section
variable {w : World} {A : Around} {E : Value → Shared → Prop} {h₀ h : Heap} {env : Env} {L : Addr} {vs : List (Option Value)} {σ : List Reg} {g : Array GenState} {d : Drawn} {t : Nat} {os : OsState} {Q : Flow → Shared → Prop}
theorem stP3 {k : Nat} (o : Ok (k + 20) A) (V : EnvOk env L ksL gsL) (Z : CE env L) {rest : List Stmt} {x0 x1 x2 x3 x4 x5 x6 x7 x8 x9 x10 x11 x12 x13 x14 x15 x16 x17 x18 x19 x20 x21 : Option Value} {bl : Addr} {l : List (Str × Tok)} (P : PreOk (l.map (·.1))) (hlen : l.length ≤ 8)
    (S : Fm w h₀ L ksL [x0, x1, x2, x3, x4, x5, x6, x7, x8, x9, x10, x11, x12, x13, x14, x15, x16, x17, x18, x19, x20, x21] (rP bl (strValues l).toArray :: rC (L + 1) (some (.ref bl)) :: σ) h)
    (hq : ∀ h' t' WD a b c, Fm w h₀ L ksL [x0, x1, some (.ref WD), x3, x4, x5, x6, x7, x8, x9, x10, x11, x12, x13, x14, x15, x16, x17, x18, x19, x20, x21] (rP WD (ctIt (l.map (·.1)) a b c) :: rP bl (strValues l).toArray :: rC (L + 1) (some (.ref bl)) :: σ) h' → wpAny (Md w) A (execs rest env) Q No (sh h' g d t' os)) :
    wpAny (Md w) A (execs (stAt lawBody 3 :: rest) env) Q No (sh h g d t os) := by
  have hbl := (S.at 0 rfl : Heap.PlainList _ _ _)
  obtain ⟨of, fd, hof, hfd⟩ : ∃ of fd, (hd.heap_39 w.params).lookup 226 = some of ∧ of.data = .func fd := ⟨_, _, rfl, rfl⟩
  refine wpAny_execs_cons ?_
  refine wpAny_Assign_Name ?_
  refine callG1 V S.tp (by decide) rfl hof hfd rfl ?_
  refine nmc V.kind Z.kb Z.cb (S.at 1 rfl) rfl ?_
  refine ⟨S.tp, ?_⟩
  refine countsCall (k := k + 16) o S.tp hbl.isList (fun y hy => (P.wl y hy).2) (by omega) fun WD h₅ t₅ a b c k₅ hCD hn => ?_
  have S := S.add k₅ (rP WD (ctIt (l.map fun q : Str × Tok => q.1) a b c)) hCD (fun b hb => by rw [List.mem_singleton.mp hb]; exact hn)
  refine st 2 V S rfl rfl fun h₆ t₆ S => ?_
  exact hq h₆ t₆ WD a b c S
theorem stP4 {k : Nat} (o : Ok (k + 20) A) (V : EnvOk env L ksL gsL) {rest : List Stmt} {x0 x1 x3 x4 x5 x6 x7 x8 x9 x10 x11 x12 x13 x14 x15 x16 x17 x18 x19 x20 x21 : Option Value} {WD : Addr} {wx : List Value} {x y z : Nat} (hx : x ≤ 10) (hy : y ≤ 10) (hz : z ≤ 10) (hok : hlsOk (lamp x) (lamp y) (lamp z) = true)
    (S : Fm w h₀ L ksL [x0, x1, some (.ref WD), x3, x4, x5, x6, x7, x8, x9, x10, x11, x12, x13, x14, x15, x16, x17, x18, x19, x20, x21] (rP WD wx.toArray :: σ) h) (hi : IntsAre wx [(x : Int), (y : Int), (z : Int)])
    (hq : ∀ h' t' t1 t2 t3, Fm w h₀ L ksL [x0, x1, some (.ref WD), some (.float (hlsC (lamp x) (lamp y) (lamp z)).1 t1), some (.float (hlsC (lamp x) (lamp y) (lamp z)).2.1 t2), some (.float (hlsC (lamp x) (lamp y) (lamp z)).2.2 t3), x6, x7, x8, x9, x10, x11, x12, x13, x14, x15, x16, x17, x18, x19, x20, x21] (rP WD wx.toArray :: σ) h' → wpAny (Md w) A (execs rest env) Q No (sh h' g d t' os)) :
    wpAny (Md w) A (execs (stAt lawBody 4 :: rest) env) Q No (sh h g d t os) := by
  obtain ⟨u1, u2, u3, e⟩ := ints3 hi
  subst e
  have hLD := (S.at 0 rfl : Heap.PlainList _ _ _)
  obtain ⟨of, fd, hof, hfd⟩ : ∃ of fd, (hd.heap_39 w.params).lookup 59 = some of ∧ of.data = .func fd := ⟨_, _, rfl, rfl⟩
  refine wpAny_execs_cons ?_
  refine Assign_Tuple ?_
  refine callG3 V S.tp (by decide) rfl hof hfd rfl rfl rfl ?_
  refine wpAny_BinOp ?_
  refine Subscript_ ?_
  refine nm 2 V S rfl rfl ?_
  refine ci fun k1 t1 => ?_
  refine itemL (v := .int (x : Int) u1) hLD.isList (by decide) (by decide) rfl ?_
  refine ci fun k2 t2 => ?_
  refine div16 hx fun k3 t3 => ?_
  refine wpAny_BinOp ?_
  refine Subscript_ ?_
  refine nm 2 V S rfl rfl ?_
  refine ci fun k4 t4 => ?_
  refine itemL (v := .int (y : Int) u2) hLD.isList (by decide) (by decide) rfl ?_
  refine ci fun k5 t5 => ?_
  refine div16 hy fun k6 t6 => ?_
  refine wpAny_BinOp ?_
  refine Subscript_ ?_
  refine nm 2 V S rfl rfl ?_
  refine ci fun k7 t7 => ?_
  refine itemL (v := .int (z : Int) u3) hLD.isList (by decide) (by decide) rfl ?_
  refine ci fun k8 t8 => ?_
  refine div16 hz fun k9 t9 => ?_
  refine ⟨S.tp, ?_⟩
  refine hlsCall (k := k + 16) o S.tp hok fun T h' t' t1 t2 t3 kk hT hn => ?_
  have S := S.kept kk
  refine un3 3 4 5 V S o.hd ⟨_, hT, rfl, 0, rfl⟩ rfl (by simp) rfl (by simp) rfl (by simp) fun h₂ t₂ S => ?_
  exact hq h₂ t₂ t1 t2 t3 S
theorem stP5 {k : Nat} (o : Ok (k + 20) A) (V : EnvOk env L ksL gsL) {rest : List Stmt} {x0 x1 x2 x6 x7 x8 x9 x10 x11 x12 x13 x14 x15 x16 x17 x18 x19 x20 x21 : Option Value} {t1 t2 t3 : Tok} {hue light share : UInt64} {both spread place : Int} {c0 c1 c2 : Nat} (h0 : c0 ≤ 4) (h1 : c1 ≤ 4) (h2 : c2 ≤ 4)
    (R : Rd hue (halfF light) share both spread place) (hrd : rdList both spread place = [(c0 : Int), (c1 : Int), (c2 : Int)])
    (S : Fm w h₀ L ksL [x0, x1, x2, some (.float hue t1), some (.float light t2), some (.float share t3), x6, x7, x8, x9, x10, x11, x12, x13, x14, x15, x16, x17, x18, x19, x20, x21] σ h)
    (hq : ∀ h' t' tm, Fm w h₀ L ksL [x0, x1, x2, some (.float hue t1), some (.float light t2), some (.float share t3), some (.str (nameT (c0 : Int) (c1 : Int) (c2 : Int) 1) tm), x7, x8, x9, x10, x11, x12, x13, x14, x15, x16, x17, x18, x19, x20, x21] σ h' → wpAny (Md w) A (execs rest env) Q No (sh h' g d t' os)) :
    wpAny (Md w) A (execs (stAt lawBody 5 :: rest) env) Q No (sh h g d t os) := by
  obtain ⟨of, fd, hof, hfd⟩ : ∃ of fd, (hd.heap_39 w.params).lookup 233 = some of ∧ of.data = .func fd := ⟨_, _, rfl, rfl⟩
  obtain ⟨ol, fl, hol, hfl⟩ : ∃ of fd, (hd.heap_39 w.params).lookup 240 = some of ∧ of.data = .func fd := ⟨_, _, rfl, rfl⟩
  refine wpAny_execs_cons ?_
  refine wpAny_Assign_Name ?_
  refine callG2 V S.tp (by decide) rfl hol hfl rfl rfl ?_
  refine callG3 V S.tp (by decide) rfl hof hfd rfl rfl rfl ?_
  refine nm 3 V S rfl rfl ?_
  refine wpAny_BinOp ?_
  refine nm 4 V S rfl rfl ?_
  refine ci fun k1 t4 => ?_
  refine half2 fun k2 t5 => ?_
  refine nm 5 V S rfl rfl ?_
  refine ⟨S.tp, ?_⟩
  refine readCall (k := k + 16) o S.tp R fun D l h₂ t6 k₂ hD hil hDn => ?_
  rw [hrd] at hil
  obtain ⟨u1, u2, u3, e⟩ := ints3 hil
  subst e
  have S := S.kept k₂
  refine ci fun k3 t7 => ?_
  refine ⟨S.tp, ?_⟩
  refine lawName (k := k + 17) o S.tp hD.isList ⟨by omega, by omega⟩ ⟨by omega, by omega⟩ ⟨by omega, by omega⟩ fun h₃ tk t₈ k₃ => ?_
  have S := S.kept k₃
  refine st 6 V S rfl rfl fun h₄ t₉ S => ?_
  exact hq h₄ t₉ tk S
theorem tupS {u v : Value} {Q : Value → Shared → Prop} (hq : ∀ T h', Keep h h' → h.get? T = none → h'.get? T = some (tupleObj #[u, v]) → Q (.ref T) (sh h' g d t os)) : wpAny (Md w) A (newTuple [u, v]) Q E (sh h g d t os) :=
  mkTup (hq _ _ (Keep.push _ _) (fresh_size h) (Heap.get?_push_size _ rfl)) (two _ _)
theorem stP6 {k : Nat} (o : Ok (k + 20) A) (V : EnvOk env L ksL gsL) {rest : List Stmt} {x0 x1 x2 x3 x4 x5 x7 x8 x9 x10 x11 x12 x13 x14 x15 x16 x17 x18 x19 x20 x21 : Option Value} {nam : Str} {tm : Tok} (hnl : nam.length ≤ 80)
    (S : Fm w h₀ L ksL [x0, x1, x2, x3, x4, x5, some (.str nam tm), x7, x8, x9, x10, x11, x12, x13, x14, x15, x16, x17, x18, x19, x20, x21] σ h)
    (hq : ∀ h' t' DD Us, Fm w h₀ L ksL [x0, x1, x2, x3, x4, x5, some (.str nam tm), some (.ref DD), x8, x9, x10, x11, x12, x13, x14, x15, x16, x17, x18, x19, x20, x21] (rTL DD Us [] [] :: rTs Us (four nam) :: σ) h' → wpAny (Md w) A (execs rest env) Q No (sh h' g d t' os)) :
    wpAny (Md w) A (execs (stAt lawBody 6 :: rest) env) Q No (sh h g d t os) := by
  have S₀ := S
  have rl : (Str.ofString "r").length = 1 := by decide
  have nsz : nam.length ≤ sizeLine := by rw [sizeLine_eq]; omega
  have se_tup : ∀ {elts : List Expr} {kk : Nat} {pos : Pos} {rest : List Expr} {env : Env}, starEach (.Tuple elts kk pos :: rest) env = (false, eval (.Tuple elts kk pos) env) :: starEach rest env := rfl
  have sw : ∀ {elts : List Expr} {pos : Pos} {t : Option Expr} {line : Nat} {env : Env}, swapsWith (.List elts pos) t line env = pure false := rfl
  refine wpAny_execs_cons ?_
  show wpAny _ _ (exec (.Assign [.Name _ _] (.List _ _) _) env) _ _ _
  with_reducible refine wpAny_Assign_Name ?_ ?_
  rotate_left
  · with_reducible exact sw
  with_reducible refine List_ ?_
  with_reducible refine spliced_more ?_ se_tup
  refine Tuple_ ?_
  refine spliced_more ?_
  refine wpAny_BinOp ?_
  refine nm 6 V S rfl rfl ?_
  refine cs fun k1 t1 => ?_
  refine addS (by rw [rl, sizeLine_eq]; omega) fun v1 t2 => ?_
  refine spliced_more (cs fun w1 t3 => ?_) se_const
  refine spliced_none ?_
  refine tupS fun T1 h₁ k1' n1 hT1 => ?_
  have S := S.kept k1'
  with_reducible refine spliced_more ?_ se_tup
  refine Tuple_ ?_
  refine spliced_more ?_
  refine wpAny_BinOp ?_
  refine cs fun k2 t4 => ?_
  refine nm 6 V S rfl rfl ?_
  refine addS (by rw [rl, sizeLine_eq]; omega) fun v2 t5 => ?_
  refine spliced_more (cs fun w2 t6 => ?_) se_const
  refine spliced_none ?_
  refine tupS fun T2 h₂ k2' n2 hT2 => ?_
  have S := S.kept k2'
  with_reducible refine spliced_more ?_ se_tup
  refine Tuple_ ?_
  refine spliced_more ?_
  refine Subscript_Slice ?_
  refine nm 6 V S rfl rfl ?_
  refine wpAny_Slice ?_
  refine evalPart_some_step ?_
  refine ci fun k3 t7 => ?_
  refine evalPart_none_step ?_
  refine evalPart_none_step ?_
  refine cut_sn nsz fun h₃ v3 t8 kp3 => ?_
  have S := S.kept kp3
  refine spliced_more (cs fun w3 t9 => ?_) se_const
  refine spliced_none ?_
  refine tupS fun T3 h₄ k3' n3 hT3 => ?_
  have S := S.kept k3'
  with_reducible refine spliced_more ?_ se_tup
  refine Tuple_ ?_
  refine spliced_more ?_
  refine Subscript_Slice ?_
  refine nm 6 V S rfl rfl ?_
  refine wpAny_Slice ?_
  refine evalPart_none_step ?_
  refine evalPart_some_step ?_
  refine UnaryOp_ ?_
  refine ci fun k4 t10 => ?_
  refine neg_int ?_
  refine evalPart_none_step ?_
  refine cut_ns nsz fun h₅ v4 t11 kp4 => ?_
  have S := S.kept kp4
  refine spliced_more (cs fun w4 t12 => ?_) se_const
  refine spliced_none ?_
  refine tupS fun T4 h₆ k4' n4 hT4 => ?_
  have K6 : Keep h₁ h₆ := k2'.trans (kp3.trans (k3'.trans (kp4.trans k4')))
  have none1 : ∀ {h' : Heap} {T : Addr}, Keep h h' → h'.get? T = none → h.get? T = none := fun k e => by
    cases q : h.get? _ with
    | none => rfl
    | some o' => rw [k _ _ q] at e; cases e
  have S := S₀.add (k1'.trans K6) (rTs [T1, T2, T3, T4] (four nam)) ⟨⟨v1, w1, K6 _ _ hT1⟩, ⟨v2, w2, (kp3.trans (k3'.trans (kp4.trans k4'))) _ _ hT2⟩, ⟨v3, w3, (kp4.trans k4') _ _ hT3⟩, ⟨v4, w4, hT4⟩, trivial⟩ (fun b hb => by
    have hb : b = T1 ∨ b = T2 ∨ b = T3 ∨ b = T4 := by simpa [rTs] using hb
    rcases hb with rfl | rfl | rfl | rfl
    · exact n1
    · exact none1 k1' n2
    · exact none1 (k1'.trans (k2'.trans kp3)) n3
    · exact none1 (k1'.trans (k2'.trans (kp3.trans (k3'.trans kp4)))) n4)
  refine spliced_none (newL (by rw [sizeLine_eq]; exact (by decide : 4 ≤ 16777216)) ?_)
  have S := S.add (Keep.push h₆ _) (rTL h₆.objs.size [T1, T2, T3, T4] [] []) ⟨plain_push h₆ _, trivial⟩ (fun b hb => by rw [List.mem_singleton.mp hb]; exact fresh_size h₆)
  refine st 7 V S rfl rfl fun h₇ t₇ S => ?_
  exact hq h₇ t₇ _ _ S
theorem stP7 {k : Nat} (o : Ok (k + 20) A) (V : EnvOk env L ksL gsL) {rest : List Stmt} {x0 x1 x2 x3 x4 x5 x6 x8 x9 x10 x11 x12 x13 x14 x15 x16 x17 x18 x19 x20 x21 : Option Value} {DD : Addr} {Us : List Addr} {ps : List (Str × Str)} (hok : ps.all (fun p => okS p.1 && okS p.2) = true) (hlen : ps.length ≤ 100)
    (S : Fm w h₀ L ksL [x0, x1, x2, x3, x4, x5, x6, some (.ref DD), x8, x9, x10, x11, x12, x13, x14, x15, x16, x17, x18, x19, x20, x21] (rTL DD Us [] [] :: rTs Us ps :: σ) h)
    (hq : ∀ h' t' x dx hA, Fm w h₀ L ksL [x0, x1, x2, x3, x4, x5, x6, some (.ref DD), some (.ref x), x9, x10, x11, x12, x13, x14, x15, x16, x17, x18, x19, x20, x21] (rI x dx hA :: rTL hA Us [] [] :: rTL DD Us [] [] :: rTs Us ps :: σ) h' → wpAny (Md w) A (execs rest env) Q No (sh h' g d t' os)) :
    wpAny (Md w) A (execs (stAt lawBody 7 :: rest) env) Q No (sh h g d t os) := by
  have hDD : h.PlainList DD ((Us ++ []).map Value.ref).toArray := (S.at 0 rfl : (rTL DD Us [] []).P _).1
  have hUs := (S.at 1 rfl : (rTs Us ps).P _)
  have hul : Us.length = ps.length := hUs.len
  obtain ⟨mN, X, -⟩ := cls_ex S.tp
  refine wpAny_execs_cons ?_
  refine wpAny_Assign_Name ?_
  refine Call_ ?_
  refine gl V S.tp (by decide) rfl ?_
  refine callWith_cls X (spliced_more ?_)
  refine copyL (l := DD) (items := ((Us ++ []).map Value.ref).toArray) (by rw [sizeLine_eq]; simp; omega) (nm 7 V S rfl rfl ⟨_, rfl, rfl⟩) hDD.isList fun hA h₂ t₂ k₂ hn₂ hA₂ => ?_
  have S := S.add k₂ (rTL hA Us [] []) ⟨hA₂, trivial⟩ (fun b hb => by rw [List.mem_singleton.mp hb]; exact hn₂)
  refine spliced_none ⟨k₂, ?_⟩
  have hA₂' : h₂.PlainList hA (Us.map Value.ref).toArray := by simpa using hA₂
  refine headersCall (k := k + 11) o S.tp hA₂' (hUs.same (k₂.same _)) hok hlen fun x dx h₃ t₃ k₃ hI hnx hnd => ?_
  have S := S.add k₃ (rI x dx hA) hI (fun b hb => by
    rcases List.mem_cons.mp hb with rfl | hb
    · exact hnx
    · rw [List.mem_singleton.mp hb]; exact hnd)
  refine st 8 V S rfl rfl fun h₄ t₉ S => ?_
  exact hq h₄ t₉ x dx hA S
theorem stP8 {k : Nat} (o : Ok (k + 20) A) (V : EnvOk env L ksL gsL) {rest : List Stmt} {x0 x1 x2 x3 x4 x5 x6 x7 x8 x9 x10 x11 x12 x13 x14 x15 x16 x17 x18 x19 x20 x21 : Option Value}
    (S : Fm w h₀ L ksL [x0, x1, x2, x3, x4, x5, x6, x7, x8, x9, x10, x11, x12, x13, x14, x15, x16, x17, x18, x19, x20, x21] σ h)
    (hq : ∀ h' t' FD, Fm w h₀ L ksL [x0, x1, x2, x3, x4, x5, x6, x7, x8, some (.ref FD), x10, x11, x12, x13, x14, x15, x16, x17, x18, x19, x20, x21] (rP FD (strValues []).toArray :: σ) h' → wpAny (Md w) A (execs rest env) Q No (sh h' g d t' os)) :
    wpAny (Md w) A (execs (stAt lawBody 8 :: rest) env) Q No (sh h g d t os) := by
  refine wpAny_execs_cons ?_
  refine wpAny_Assign_Name ?_
  refine List_ ?_
  refine spliced_none ?_
  refine newLS S (by simp) fun FD h₂ S _ _ => ?_
  refine st 9 V S rfl rfl fun h₄ t₉ S => ?_
  exact hq h₄ t₉ FD S
end
end Mine
end
section
open PySem PySem.W PySem.W.X PyProof.Rows PySem.Calls PySem.SeqAt
set_option maxRecDepth 100000
set_option maxHeartbeats 2000000
namespace Mine

structure FinOk (PS : List (Str × Str)) (nam ab : Str) (fl : List Str) : Prop where
  pl : ∀ p ∈ PS, p.1.length ≤ 100
  ln : PS.length ≤ 100
  nl : nam.length ≤ 80
  nk : okS (Txt.lower nam) = true
  al : ab.length ≤ 80
  ak : okS (Txt.lower ab) = true
  na : allC PS (Txt.lower nam) = fl
  ng : ∃ f r, fl = f :: r ∧ getC PS (Txt.lower nam) = some f
  aa : allC PS (Txt.lower ab) = []
  ag : getC PS (Txt.lower ab) = none
section
variable {w : World} {A : Around} {E : Value → Shared → Prop} {h₀ h : Heap} {env : Env} {L : Addr} {vs : List (Option Value)} {σ : List Reg} {g : Array GenState} {d : Drawn} {t : Nat} {os : OsState} {Q : Flow → Shared → Prop}
/-- l.append(x), l told by any expression, found on the way -/
theorem app3 {items : Array Value} {o e : Expr} {apos pos : Pos} {Q : Value → Shared → Prop}
    (hbase : attributeBase o "append" env (eval o env) = eval o env) (hs : starEach [e] env = [(false, eval e env)]) (hline : (apos.endLine == pos.line) = true) (hsz : items.size ≤ sizeLine)
    (ho : wpAny (Md w) A (eval o env) (fun v s₁ => ∃ l h₁ g₁ t₁, v = .ref l ∧ s₁ = sh h₁ g₁ d t₁ os ∧ h₁.PlainList l items ∧
      wpAny (Md w) A (eval e env) (fun x s₂ => s₂.heap.PlainList l items ∧ ∀ h', h'.PlainList l (items.push x) → Heap.ExtBut l s₂.heap h' → Q .none { s₂ with heap := h' }) E s₁) E (sh h g d t os)) :
    wpAny (Md w) A (eval (.Call (.Attribute o "append" apos) [e] [] pos) env) Q E (sh h g d t os) := by
  refine Call_method1 hbase hs hline (wpAny_mono ho (fun v s₁ h₁ => ?_) fun _ _ x => x)
  obtain ⟨l, h₁, g₁, t₁, rfl, rfl, hl, hx⟩ := h₁
  refine ⟨"list", "list.append", F.plainAttrs_list, slot_list_append, type_list_append, hl.isList.typeIs, fun a e => ?_, ?_⟩
  · cases e
    obtain ⟨n, e⟩ := hl
    exact ⟨_, e, rfl⟩
  · refine Calls.callWith_builtin rfl (Calls.evalArgs_plain (Calls.spliced_cons (wpAny_mono hx (fun x s₂ hx => Calls.spliced_nil ?_) fun _ _ e => e)))
    exact wpAny_list_append_plain hx.1 (fun h' hl' hs' => hx.2 h' hl' hs'.extBut) hsz
theorem stQ0 {k : Nat} (o : Ok (k + 20) A) (V : EnvOk env L ksL gsL) {rest : List Stmt} {x0 x1 x3 x4 x5 x6 x7 x8 x9 x10 x11 x12 x13 x14 x15 x16 x17 x18 x19 x20 x21 : Option Value} {WD : Addr} {c0 c1 c2 : Nat} {u1 u2 u3 : Tok} (m : Nat) (hm : σ[m]? = some (rP WD #[.int (c0 : Int) u1, .int (c1 : Int) u2, .int (c2 : Int) u3])) (h0 : c0 ≤ 8) (h1 : c1 ≤ 8) (h2 : c2 ≤ 8)
    (S : Fm w h₀ L ksL [x0, x1, some (.ref WD), x3, x4, x5, x6, x7, x8, x9, x10, x11, x12, x13, x14, x15, x16, x17, x18, x19, x20, x21] σ h)
    (hq : ∀ h' t' ta, Fm w h₀ L ksL [x0, x1, some (.ref WD), x3, x4, x5, x6, x7, x8, x9, x10, x11, x12, x13, x14, x15, x16, x17, x18, x19, some (.str (nameT (c0 : Int) (c1 : Int) (c2 : Int) 0) ta), x21] σ h' → wpAny (Md w) A (execs rest env) Q No (sh h' g d t' os)) :
    wpAny (Md w) A (execs (stAt lawBody 10 :: rest) env) Q No (sh h g d t os) := by
  obtain ⟨ol, fl, hol, hfl⟩ : ∃ of fd, (hd.heap_39 w.params).lookup 240 = some of ∧ of.data = .func fd := ⟨_, _, rfl, rfl⟩
  have hW := (S.at m hm : Heap.PlainList _ _ _)
  refine wpAny_execs_cons ?_
  refine wpAny_Assign_Name ?_
  refine callG2 V S.tp (by decide) rfl hol hfl rfl rfl ?_
  refine nm 2 V S rfl rfl ?_
  refine ci fun k1 t1 => ?_
  refine ⟨S.tp, ?_⟩
  refine lawName (k := k + 17) o S.tp hW.isList ⟨by omega, by omega⟩ ⟨by omega, by omega⟩ ⟨by omega, by omega⟩ fun h₃ tk t₈ k₃ => ?_
  have S := S.kept k₃
  refine st 20 V S rfl rfl fun h₄ t₉ S => ?_
  exact hq h₄ t₉ tk S
theorem stQ {k : Nat} (o : Ok (k + 20) A) (V : EnvOk env L ksL gsL) {x0 x1 x2 x3 x4 x5 x10 x11 x12 x13 x14 x15 x16 x17 x18 x19 x21 : Option Value} {DD hA x dx FD : Addr} {Us T1 T2 : List Addr} {fl : List (Str × Tok)} {nam ab : Str} {ps4 ps : List (Str × Str)} {tm ta : Tok} {r0 r1 r2 : Reg} (F : FinOk (ps4 ++ ps) nam ab (fl.map (·.1)))
    (S : Fm w h₀ L ksL [x0, x1, x2, x3, x4, x5, some (.str nam tm), some (.ref DD), some (.ref x), some (.ref FD), x10, x11, x12, x13, x14, x15, x16, x17, x18, x19, some (.str ab ta), x21] (r0 :: r1 :: rP FD (strValues fl).toArray :: rTL DD Us T1 ps :: rTL hA Us T2 ps :: rI x dx hA :: r2 :: rTs Us ps4 :: σ) h)
    (hq : ∀ h' t', Keep h₀ h' → Q (.ret (.bool true)) (sh h' g d t' os)) :
    wpAny (Md w) A (execs [stAt lawBody 11, stAt lawBody 12, stAt lawBody 13, stAt lawBody 14] env) Q No (sh h g d t os) := by
  obtain ⟨of0, fd0, hof0, hfd0, hfc0⟩ : ∃ of fd, (hd.heap_39 w.params).lookup 142 = some of ∧ of.data = .func fd ∧ of.cls = .type "function" := ⟨_, _, rfl, rfl, rfl⟩
  obtain ⟨of1, fd1, hof1, hfd1, hfc1⟩ : ∃ of fd, (hd.heap_39 w.params).lookup 167 = some of ∧ of.data = .func fd ∧ of.cls = .type "function" := ⟨_, _, rfl, rfl, rfl⟩
  obtain ⟨of2, fd2, hof2, hfd2, hfc2⟩ : ∃ of fd, (hd.heap_39 w.params).lookup 150 = some of ∧ of.data = .func fd ∧ of.cls = .type "function" := ⟨_, _, rfl, rfl, rfl⟩
  have f3 : ps4.length + ps.length ≤ 100 := by simpa using F.ln
  have tab : ∀ {h' : Heap} {vs' : List (Option Value)} {τ : List Reg} (S : Fm w h₀ L ksL vs' (τ ++ (r0 :: r1 :: rP FD (strValues fl).toArray :: rTL DD Us T1 ps :: rTL hA Us T2 ps :: rI x dx hA :: r2 :: rTs Us ps4 :: σ)) h'), Tab h' x dx hA (Us ++ T2) (ps4 ++ ps) := by
    intro h' vs' τ S
    have gi : ∀ q, (τ ++ (r0 :: r1 :: rP FD (strValues fl).toArray :: rTL DD Us T1 ps :: rTL hA Us T2 ps :: rI x dx hA :: r2 :: rTs Us ps4 :: σ))[τ.length + q]? = (r0 :: r1 :: rP FD (strValues fl).toArray :: rTL DD Us T1 ps :: rTL hA Us T2 ps :: rI x dx hA :: r2 :: rTs Us ps4 :: σ)[q]? := fun q => by
      rw [List.getElem?_append_right (by omega)]; congr 1; omega
    have a1 := (S.at (τ.length + 5) ((gi 5).trans rfl) : (rI x dx hA).P h')
    have a2 := (S.at (τ.length + 4) ((gi 4).trans rfl) : (rTL hA Us T2 ps).P h')
    have a3 := (S.at (τ.length + 7) ((gi 7).trans rfl) : (rTs Us ps4).P h')
    exact ⟨a1, a2.1, a3.app a2.2⟩
  -- even
  refine wpAny_execs_cons ?_
  refine wpAny_Assign_Name ?_
  refine methC1 (y := none) (f := 142) S.tp (tab (τ := []) S).inst rfl hof0 hfd0 hfc0 (by rw [typeLookup_type, builtinLookup_eq_fast]; kernel_rfl) (by decide) (fun Q' q => nm 8 V S rfl rfl q) ?_ rfl rfl
  refine nm 6 V S rfl rfl ?_
  refine ⟨S.tp, ?_⟩
  refine getAllCall (k := k + 12) o S.tp (tab (τ := []) S) F.pl F.ln (Nat.le_trans F.nl (by decide)) F.nk fun ED le h₁ t₁ k₁ hED hle hn₁ => ?_
  have S := S.add k₁ (rP ED (strValues le).toArray) hED (fun b hb => by rw [List.mem_singleton.mp hb]; exact hn₁)
  refine st 21 V S rfl rfl fun h₂ t₂ S => ?_
  have hle : le.map (·.1) = fl.map (·.1) := hle.trans F.na
  -- items().append
  refine wpAny_execs_cons ?_
  refine wpAny_Expr ?_ V.inter
  have T2l := (tab (τ := [_]) S).tups.len
  refine app3 (items := ((Us ++ T2).map Value.ref).toArray) ?qa ?qb ?qc (by rw [sizeLine_eq]; simp at T2l ⊢; omega) ?_
  case qa => exact rfl
  case qb => exact rfl
  case qc => exact rfl
  refine methC0 (y := none) (f := 167) S.tp (tab (τ := [_]) S).inst rfl hof1 hfd1 hfc1 (by rw [typeLookup_type, builtinLookup_eq_fast]; kernel_rfl) (by decide) (fun Q' q => nm 8 V S rfl rfl q) ?_ rfl
  refine itemsCall (k := k + 16) o S.tp (tab (τ := [_]) S) F.ln fun ID h₃ t₃ k₃ hn₃ hID => ?_
  have S := S.add k₃ (rP ID ((Us ++ T2).map Value.ref).toArray) hID (fun b hb => by rw [List.mem_singleton.mp hb]; exact hn₃)
  refine ⟨ID, h₃, _, t₃, rfl, rfl, hID, ?_⟩
  refine Tuple_ ?_
  refine spliced_more ?_
  refine nm 6 V S rfl rfl ?_
  refine spliced_more (cs fun w1 t4 => ?_) se_const
  refine spliced_none ?_
  refine tupS fun T h₄ k₄ hn₄ hT₄ => ?_
  have S := S.kept k₄
  refine ⟨S.at 0 rfl, fun h₅ hl₅ hx₅ => ?_⟩
  have S := S.pop (h' := h₅) (fun b o hb e => hx₅ b o (fun q => hb (by rw [q]; exact List.mem_singleton.mpr rfl)) e)
  -- the checks
  refine wpAny_execs_cons ?_
  refine wpAny_If ?_
  refine isTrue_or ?_
  refine wpAny_isTrue_Compare1 ?_
  refine methC0 (y := none) (f := 167) S.tp (tab (τ := [_]) S).inst rfl hof1 hfd1 hfc1 (by rw [typeLookup_type, builtinLookup_eq_fast]; kernel_rfl) (by decide) (fun Q' q => nm 8 V S rfl rfl q) ?_ rfl
  refine itemsCall (k := k + 16) o S.tp (tab (τ := [_]) S) F.ln fun JD h₆ t₆ k₆ hn₆ hJD => ?_
  have S := S.kept k₆
  refine nm 7 V S rfl rfl ?_
  have hDD := (S.at 4 rfl : (rTL DD Us T1 ps).P _)
  have hU4 := (S.at 8 rfl : (rTs Us ps4).P _)
  refine nePairs (r := ps4 ++ ps) hJD.isList hDD.1.isList (tab (τ := [_]) S).tups (hU4.app hDD.2) (by have := o.un; show _ < 9900; omega) ?_
  refine wpAny_truthy_bool ?_
  rw [if_neg (by decide)]
  refine isTrue_or ?_
  refine wpAny_isTrue_Compare1 ?_
  refine methC1 (y := none) (f := 142) S.tp (tab (τ := [_]) S).inst rfl hof0 hfd0 hfc0 (by rw [typeLookup_type, builtinLookup_eq_fast]; kernel_rfl) (by decide) (fun Q' q => nm 8 V S rfl rfl q) ?_ rfl rfl
  refine nm 20 V S rfl rfl ?_
  refine ⟨S.tp, ?_⟩
  refine getAllCall (k := k + 12) o S.tp (tab (τ := [_]) S) F.pl F.ln (Nat.le_trans F.al (by decide)) F.ak fun AD la h₇ t₇ k₇ hAD hla hn₇ => ?_
  have S := S.kept k₇
  rw [F.aa] at hla
  have hla0 : la = [] := by simpa using hla
  subst hla0
  refine List_ ?_
  refine spliced_none ?_
  refine newLS S (by simp) fun ND h₈ S' k₈ hn₈ => ?_
  have hND : h₈.PlainList ND #[] := S'.at 0 rfl
  have S := S'.drop 1
  have hAD8 : h₈.PlainList AD #[] := hAD.at fun o e => k₈ _ _ e
  refine neNil hAD8.isList hND.isList o.unitsOk ?_
  refine wpAny_truthy_bool ?_
  rw [if_neg (by decide)]
  refine isTrue_or ?_
  refine wpAny_isTrue_Compare1 ?_
  have S : Fm w h₀ L ksL _ ([rP ED (strValues le).toArray] ++ (r0 :: r1 :: rP FD (strValues fl).toArray :: rTL DD Us T1 ps :: rTL hA Us T2 ps :: rI x dx hA :: r2 :: rTs Us ps4 :: σ)) h₈ := S
  refine methC1 (y := none) (f := 150) S.tp (tab (τ := [_]) S).inst rfl hof2 hfd2 hfc2 (by rw [typeLookup_type, builtinLookup_eq_fast]; kernel_rfl) (by decide) (fun Q' q => nm 8 V S rfl rfl q) ?_ rfl rfl
  refine nm 20 V S rfl rfl ?_
  refine ⟨S.tp, ?_⟩
  refine getCall (k := k + 12) o S.tp (tab (τ := [_]) S) F.pl F.ln (Nat.le_trans F.al (by decide)) F.ak fun h₉ t₉ tk k₉ => ?_
  have S := S.kept k₉
  rw [F.ag]
  refine cn ?_
  refine wpAny_isNot_self rfl ?_
  refine wpAny_truthy_bool ?_
  rw [if_neg (by decide)]
  refine isTrue_or_nil ?_
  rw [if_neg (by decide)]
  refine wpAny_execs_nil ?_
  -- the answer
  refine wpAny_execs_cons ?_
  refine wpAny_Return_some ?_
  refine BoolOp_and ?_
  refine wpAny_Compare1 ?_
  refine nm 21 V S rfl rfl ?_
  refine nm 9 V S rfl rfl ?_
  have hED' := (S.at 0 rfl : Heap.PlainList _ _ _)
  have hFD' := (S.at 3 rfl : Heap.PlainList _ _ _)
  refine eqStrLists hED'.isList hFD'.isList o.unitsOk ?_
  rw [decide_eq_true hle]
  refine wpAny_truthy_bool ?_
  rw [if_pos rfl]
  refine BoolOp_one ?_
  refine wpAny_Compare1 ?_
  refine methC1 (y := none) (f := 150) S.tp (tab (τ := [_]) S).inst rfl hof2 hfd2 hfc2 (by rw [typeLookup_type, builtinLookup_eq_fast]; kernel_rfl) (by decide) (fun Q' q => nm 8 V S rfl rfl q) ?_ rfl rfl
  refine nm 6 V S rfl rfl ?_
  refine ⟨S.tp, ?_⟩
  refine getCall (k := k + 12) o S.tp (tab (τ := [_]) S) F.pl F.ln (Nat.le_trans F.nl (by decide)) F.nk fun h10 t10 tk2 k10 => ?_
  have S := S.kept k10
  obtain ⟨f, r, hf1, hf2⟩ := F.ng
  rw [hf2]
  have hF0 : ∃ u, (strValues fl).toArray[0]? = some (.str f u) := by
    cases fl with
    | nil => simp at hf1
    | cons p q =>
      simp at hf1
      exact ⟨p.2, by simp [strValues, hf1.1]⟩
  obtain ⟨u0, hF0⟩ := hF0
  have hFD10 := (S.at 3 rfl : Heap.PlainList _ _ _)
  refine Subscript_ ?_
  refine nm 9 V S rfl rfl ?_
  refine ci fun k11 t11 => ?_
  refine itemL (k := 0) (v := .str f u0) hFD10.isList (by decide) (by decide) hF0 ?_
  refine eqS ?_
  rw [decide_eq_true rfl]
  exact hq h10 _ S.keep
end
end Mine
end
section
open PySem PySem.W PySem.W.X PyProof.Rows PySem.Calls PySem.SeqAt
set_option maxRecDepth 100000
set_option maxHeartbeats 2000000
namespace Mine

theorem lawBody_eq : lawBody = [stAt lawBody 0, stAt lawBody 1, stAt lawBody 2, stAt lawBody 3, stAt lawBody 4, stAt lawBody 5, stAt lawBody 6, stAt lawBody 7, stAt lawBody 8, stAt lawBody 9, stAt lawBody 10, stAt lawBody 11, stAt lawBody 12, stAt lawBody 13, stAt lawBody 14] := rfl
theorem Fm.perm {w : World} {h₀ h : Heap} {L : Addr} {ks : List Str} {vs : List (Option Value)} {σ : List Reg} (S : Fm w h₀ L ks vs σ h) (f : List Nat) (hf : f.Nodup) (σ' : List Reg) (e : f.map (fun j => σ[j]?) = σ'.map some) : Fm w h₀ L ks vs σ' h := by
  have get : ∀ (i : Nat) (r : Reg), σ'[i]? = some r → ∃ j, f[i]? = some j ∧ σ[j]? = some r := fun i r hi => by
    have h1 : (σ'.map some)[i]? = some (some r) := by rw [List.getElem?_map, hi]; rfl
    rw [← e, List.getElem?_map] at h1
    cases q : f[i]? with
    | none => rw [q] at h1; cases h1
    | some j => rw [q] at h1; exact ⟨j, rfl, Option.some.inj h1⟩
  refine ⟨S.top, S.keep, S.ns, S.fresh, fun i r hi => ?_, fun i j r r' hij hi hj => ?_⟩
  · obtain ⟨m, -, hm⟩ := get i r hi
    exact S.led m r hm
  · obtain ⟨a, ha, ha'⟩ := get i r hi
    obtain ⟨b, hb, hb'⟩ := get j r' hj
    refine S.dj a b r r' (fun q => hij ?_) ha' hb'
    subst q
    have li := (List.getElem?_eq_some_iff.mp ha).1
    exact (List.getElem?_inj li hf).mp (ha.trans hb.symm)
def wiN (ws : List Str) : List Int := [((cN ws 0 : Nat) : Int), ((cN ws 1 : Nat) : Int), ((cN ws 2 : Nat) : Int)]
structure LawOk (ws : List Str) (n c0 c1 c2 : Nat) : Prop where
  pre : PreOk ws
  turn : ∀ i j, i < n → 1 ≤ j → j ≤ n → TurnOk ws n i j
  sum : c0 + c1 + c2 = n
  e0 : cN ws 0 = 2 * c0
  e1 : cN ws 1 = 2 * c1
  e2 : cN ws 2 = 2 * c2
  ok4 : (four (nmC c0 c1 c2 1)).all (fun p => okS p.1 && okS p.2) = true
  fin : FinOk (four (nmC c0 c1 c2 1) ++ duesL ws n (idxs n n)) (nmC c0 c1 c2 1) (nmC (cN ws 0) (cN ws 1) (cN ws 2) 0) (fairL (wiN ws) ws n (idxs n n))
theorem ne_add (L : Addr) {i j : Nat} (h : i ≠ j) : L + i ≠ L + j := fun q => h (Nat.add_left_cancel q)
theorem lawIn {w : World} {k : Nat} {B : Around} {Q : Value → Shared → Prop} {h h₁ : Heap} {env : Env} {L : Addr} {g : Array GenState} {d : Drawn} {t : Nat} {os : OsState} (o : Ok (k + 20) B) (V : EnvOk env L ksL gsL) (Z : CE env L) {a : Addr} {xv : List Value} {ns : List Int}
    (hL : h.IsList a xv.toArray) (hI : IntsAre xv ns) (hlen : ns.length ≤ 63)
    (pure : ∀ ws n, (n = 3 ∨ n = 4) → ws.length = 2 * n → Beads ws → ∃ c0 c1 c2, LawOk ws n c0 c1 c2)
    (S : Fm w h L ksL (some (.ref a) :: List.replicate 21 none) [] h₁) (hb : h₁.IsCell (L + 1) none ∧ L + 1 ≠ L ∧ h.get? (L + 1) = none) (hs : h₁.IsCell (L + 2) none ∧ L + 2 ≠ L ∧ h.get? (L + 2) = none) (hc : h₁.IsCell (L + 3) none ∧ L + 3 ≠ L ∧ h.get? (L + 3) = none)
    (hq : ∀ h' g' t', Keep h h' → GG g g' → Q (.bool true) (sh h' g' d t' os)) :
    wpAny (Md w) B (execs lawBody env) (fun fl s' => Q (retOf fl) s') No (sh h₁ g d t os) := by
  have S := S.adopt (rC (L + 3) none) hc.1 (fun b hb => by rw [List.mem_singleton.mp hb]; exact ⟨hc.2.1, hc.2.2, fun i r' hi => by simp at hi⟩)
  have S := S.adopt (rC (L + 2) none) hs.1 (fun b hb => by
    rw [List.mem_singleton.mp hb]
    refine ⟨hs.2.1, hs.2.2, fun i r' hi hm => ?_⟩
    match i, hi with
    | 0, hi => cases hi; exact absurd (List.mem_singleton.mp hm) (ne_add L (by decide)))
  have S := S.adopt (rC (L + 1) none) hb.1 (fun b hb' => by
    rw [List.mem_singleton.mp hb']
    refine ⟨hb.2.1, hb.2.2, fun i r' hi hm => ?_⟩
    match i, hi with
    | 0, hi => cases hi; exact absurd (List.mem_singleton.mp hm) (ne_add L (by decide))
    | 1, hi => cases hi; exact absurd (List.mem_singleton.mp hm) (ne_add L (by decide)))
  refine execs_to lawBody_eq ?_
  refine stP0 o V Z hL hI hlen S fun h₂ t₂ bl l n hn hl hB S => ?_
  obtain ⟨c0, c1, c2, K⟩ := pure (l.map (·.1)) n hn (by simpa using hl) hB
  have hn4 : n ≤ 4 := by omega
  have hsum := K.sum
  refine stP1 o V Z hl hn4 S fun h₃ t₃ tn S => ?_
  refine stP2 o V Z K.pre (by omega) S fun h₄ g₄ t₄ hg₄ S => ?_
  refine stP3 o V Z K.pre (by omega) S fun h₅ t₅ WD a b c S => ?_
  have S := S.head (r' := rP WD [Value.int ((cN (l.map (·.1)) 0 : Nat) : Int) a, .int ((cN (l.map (·.1)) 1 : Nat) : Int) b, .int ((cN (l.map (·.1)) 2 : Nat) : Int) c].toArray) rfl
  obtain ⟨hok, both, spread, place, R, hrd⟩ := half_back (x := c0) (y := c1) (z := c2) (by omega)
  have hwi : IntsAre [Value.int ((cN (l.map (·.1)) 0 : Nat) : Int) a, .int ((cN (l.map (·.1)) 1 : Nat) : Int) b, .int ((cN (l.map (·.1)) 2 : Nat) : Int) c] (wiN (l.map (·.1))) := .cons _ _ (.cons _ _ (.cons _ _ .nil))
  refine stP4 (x := 2 * c0) (y := 2 * c1) (z := 2 * c2) o V (by omega) (by omega) (by omega) hok S (by rw [← K.e0, ← K.e1, ← K.e2]; exact hwi) fun h₆ t₆ t1 t2 t3 S => ?_
  refine stP5 (c0 := c0) (c1 := c1) (c2 := c2) o V (by omega) (by omega) (by omega) R hrd S fun h₇ t₇ tm S => ?_
  refine stP6 (nam := nmC c0 c1 c2 1) o V K.fin.nl S fun h₈ t₈ DD Us S => ?_
  refine stP7 o V K.ok4 (show 4 ≤ 100 by decide) S fun h₉ t₉ x dx hA S => ?_
  refine stP8 o V S fun h10 t10 FD S => ?_
  have hUs : Us.length = 4 := (S.at 4 rfl : (rTs Us _).P _).len
  have S := S.perm [8, 9, 0, 3, 2, 1, 5, 4, 6, 7] (by decide) [rC (L + 2) none, rC (L + 3) none, rP FD (strValues []).toArray, rTL DD Us [] [], rTL hA Us [] [], rI x dx hA, rP WD [Value.int ((cN (l.map (·.1)) 0 : Nat) : Int) a, .int ((cN (l.map (·.1)) 1 : Nat) : Int) b, .int ((cN (l.map (·.1)) 2 : Nat) : Int) c].toArray, rTs Us (four (nmC c0 c1 c2 1)), rP bl (strValues l).toArray, rC (L + 1) (some (.ref bl))] rfl
  refine stOuter (wi := wiN (l.map (·.1))) o V Z hn4 hl K.turn hwi rfl (by omega) S rfl ?_
  intro h11 g11 t11 fl T1 T2 sv cv y3 y4 y5 y10 y11 y12 y13 y14 y15 y16 y17 y18 y19 hg11 hfl S
  have d0 := K.e0
  have d1 := K.e1
  have d2 := K.e2
  refine stQ0 (c0 := cN (l.map (·.1)) 0) (c1 := cN (l.map (·.1)) 1) (c2 := cN (l.map (·.1)) 2) o V 6 rfl (by omega) (by omega) (by omega) S fun h12 t12 ta S => ?_
  have F := K.fin
  rw [← hfl] at F
  refine stQ o V F S fun h13 t13 k13 => ?_
  exact hq h13 _ t13 k13 (hg₄.trans hg11)
theorem lawCall {w : World} {k : Nat} {A : Around} {E : Value → Shared → Prop} {Q : Value → Shared → Prop} {h : Heap} {g : Array GenState} {d : Drawn} {t : Nat} {os : OsState} (o : Ok (k + 21) A) (T : Tp w h) {a : Addr} {xv : List Value} {ns : List Int}
    (hL : h.IsList a xv.toArray) (hI : IntsAre xv ns) (hlen : ns.length ≤ 63)
    (pure : ∀ ws n, (n = 3 ∨ n = 4) → ws.length = 2 * n → Beads ws → ∃ c0 c1 c2, LawOk ws n c0 c1 c2)
    (hq : ∀ h' g' t', Keep h h' → GG g g' → Q (.bool true) (sh h' g' d t' os)) :
    wpAny (Md w) A (call (.ref 245) [.ref a]) Q E (sh h g d t os) := by
  refine' enterC (k := k + 20) (body := lawBody) (binds := [(Str.ofString "script", .ref a)]) o T ?ho ?hcd ksL gsL (some (.ref a) :: List.replicate 21 none) (fun _ => none) ?hsc ?hb ?hkind ?hm ?hc ?_
  case ho => exact rfl
  case hcd => exact rfl
  case hsc => decide +kernel
  case hb => exact rfl
  case hkind =>
    intro L y hy
    rw [List.mem_singleton.mp hy]; exact .inl rfl
  case hm =>
    funext y
    rw [mapOf_cons]
    have e : mapOf (List.drop 1 ksL) (List.replicate 21 none) y = none := mapOf_none (List.drop 1 ksL) y
    show _ = if y = Str.ofString "script" then some (Value.ref a) else mapOf (List.drop 1 ksL) (List.replicate 21 none) y
    rw [e]; rfl
  case hc => rfl
  intro L h₁ t₁ V S o₁ hcell
  exact lawIn o₁ V ⟨rfl, rfl, rfl, rfl, rfl, rfl⟩ hL hI hlen pure S (hcell (Str.ofString "beads") (L + 1) rfl) (hcell (Str.ofString "side") (L + 2) rfl) (hcell (Str.ofString "cuts") (L + 3) rfl) hq
end Mine
end
section
open PySem PySem.W PySem.W.X PyProof.Rows PySem.Calls PySem.SeqAt
set_option maxRecDepth 100000
set_option maxHeartbeats 2000000
namespace Mine

def cd (x : Str) : List Nat := x.cps.toList
def flat (ps : List Str) : List Nat := ps.flatMap cd
theorem cd_ext {x y : Str} (h : cd x = cd y) : x = y := Str.ext' (Array.toList_inj.mp h)
theorem cd_app (x y : Str) : cd (x ++ y) = cd x ++ cd y := by
  unfold cd; rw [Str.cps_append]; simp
theorem cd_len (x : Str) : (cd x).length = x.length := by simp [cd, Str.length]
theorem quote_eq : quote = ⟨#[34]⟩ := by decide
theorem cd_quote : cd quote = [34] := by rw [quote_eq]; rfl
theorem cd_bsl : cd bsl = [92] := by rw [show bsl = ⟨#[92]⟩ from back_eq]; rfl
theorem flat_app (a b : List Str) : flat (a ++ b) = flat a ++ flat b := by simp [flat]
theorem flat_cons (a : Str) (b : List Str) : flat (a :: b) = cd a ++ flat b := by simp [flat]
theorem flat_nil : flat [] = [] := rfl
theorem join_eq (sep : Str) (ps : List Str) : Txt.join sep ps = Str.join sep ps := StrLaws.glued_eq_join sep ps
theorem cd_joinE : ∀ ps : List Str, cd (joinE ps) = flat ps
  | [] => rfl
  | [x] => by unfold joinE; rw [join_eq]; show cd x = _; rw [flat_cons, flat_nil, List.append_nil]
  | x :: y :: r => by
    have ih := cd_joinE (y :: r)
    unfold joinE at ih ⊢
    rw [join_eq] at ih ⊢
    show cd (x ++ Str.ofString "" ++ Str.join (Str.ofString "") (y :: r)) = _
    have : cd (Str.ofString "") = [] := by decide
    rw [cd_app, cd_app, ih, this, List.append_nil, flat_cons x]
theorem cd_txt (ws : List Str) (n i j : Nat) : cd (txt ws n i j) = flat (pcs ws n i j 0) ++ [34] ++ flat (pcs ws n i j 1) ++ [34] ++ flat (pcs ws n i j 2) ++ [34] ++ flat (pcs ws n i j 3) := by
  unfold txt
  rw [join_eq]
  show cd (joinE (pcs ws n i j 0) ++ quote ++ (joinE (pcs ws n i j 1) ++ quote ++ (joinE (pcs ws n i j 2) ++ quote ++ joinE (pcs ws n i j 3)))) = _
  simp only [cd_app, cd_joinE, cd_quote, List.append_assoc]
def tokB (y : Str) : Bool := match y.cps.toList with
  | [c] => c != 92
  | [a, _] => a == 92
  | _ => false
theorem tok_cases {y : Str} (h : tokB y = true) : (∃ c, c ≠ 92 ∧ y = ⟨#[c]⟩) ∨ ∃ c, y = ⟨#[92, c]⟩ := by
  obtain ⟨⟨l⟩⟩ := y
  match l, h with
  | [], h => exact absurd h (by decide)
  | [c], h => exact .inl ⟨c, by simpa [tokB] using h, rfl⟩
  | [a, c], h =>
    have : a = 92 := by simpa [tokB] using h
    subst this
    exact .inr ⟨c, rfl⟩
  | a :: b :: c :: r, h => exact absurd h (by simp [tokB])
theorem escL_tok : ∀ (T : List Str), (∀ y ∈ T, tokB y = true) → ∀ (rest : List Nat) (pos : Nat), escL (flat T ++ rest) pos false = unitsL T pos ++ escL rest (pos + (flat T).length) false
  | [], _, rest, pos => by simp [flat, unitsL]
  | y :: T, h, rest, pos => by
    have hy := tok_cases (h y (List.mem_cons_self ..))
    have ih := escL_tok T (fun z hz => h z (List.mem_cons_of_mem _ hz)) rest
    rw [flat_cons, List.append_assoc]
    rcases hy with ⟨c, hc, rfl⟩ | ⟨c, rfl⟩
    · show escL (c :: (flat T ++ rest)) pos false = (pos + 1 - 1, _) :: (unitsL T (pos + 1) ++ _)
      rw [escL, if_neg hc, ih, List.length_append]
      show _ = _ :: (_ ++ escL rest (pos + (1 + (flat T).length)) false)
      rw [show pos + 1 - 1 = pos by omega, show pos + 1 + (flat T).length = pos + (1 + (flat T).length) by omega]
    · show escL (92 :: c :: (flat T ++ rest)) pos false = (pos + 2 - 1, _) :: (unitsL T (pos + 2) ++ _)
      rw [escL, if_pos rfl, escL, ih, List.length_append]
      show _ = _ :: (_ ++ escL rest (pos + (2 + (flat T).length)) false)
      rw [show pos + 2 - 1 = pos + 1 by omega, show pos + 1 + 1 + (flat T).length = pos + (2 + (flat T).length) by omega, show pos + 1 + 1 = pos + 2 by omega]
theorem sumL_flat (T : List Str) : sumL T = (flat T).length := by
  induction T with
  | nil => rfl
  | cons a r ih => rw [flat_cons, List.length_append, ← ih, cd_len]; simp [sumL]
theorem unitsL_app (A B : List Str) : ∀ n, unitsL (A ++ B) n = unitsL A n ++ unitsL B (n + (flat A).length) := by
  induction A with
  | nil => intro n; simp [unitsL, flat]
  | cons a r ih =>
    intro n
    rw [List.cons_append, unitsL, unitsL, ih, flat_cons, List.length_append, cd_len]
    simp [Nat.add_assoc]
theorem units_q (B : List Str) (n : Nat) : unitsL (quote :: B) n = (n, quote) :: unitsL B (n + 1) := by
  have : quote.length = 1 := by decide
  simp [unitsL, this]
theorem go_cons (x : Str) (i : Nat) (u : Str) (r : List (Nat × Str)) (st : Nat) (op : Option Nat) (res : List Str) : stripGo x ((i, u) :: r) st op res =
    if u = quote then (match op with
      | none => stripGo x r st (some i) res
      | some o => stripGo x r (i + 1) none (if st ≠ o then res ++ [Txt.slice x (some st) (some o)] else res))
    else stripGo x r st op res := by
  cases op <;> rfl
theorem go_skip (x : Str) (r : List (Nat × Str)) (st : Nat) (op : Option Nat) (res : List Str) : ∀ (A : List Str) (n : Nat), (∀ y ∈ A, y ≠ quote) → stripGo x (unitsL A n ++ r) st op res = stripGo x r st op res
  | [], n, _ => rfl
  | y :: A, n, h => by
    rw [unitsL, List.cons_append, go_cons, if_neg (h y (List.mem_cons_self ..))]
    exact go_skip x r st op res A _ fun z hz => h z (List.mem_cons_of_mem _ hz)
theorem go_skip' (x : Str) (st : Nat) (op : Option Nat) (res : List Str) (A : List Str) (n : Nat) (h : ∀ y ∈ A, y ≠ quote) : stripGo x (unitsL A n) st op res = (st, res) := by
  have := go_skip x [] st op res A n h
  rw [List.append_nil] at this
  rw [this]; rfl
theorem go_open (x : Str) (i st : Nat) (r : List (Nat × Str)) (res : List Str) : stripGo x ((i, quote) :: r) st none res = stripGo x r st (some i) res := by rw [go_cons, if_pos rfl]
theorem go_close (x : Str) (i st o : Nat) (r : List (Nat × Str)) (res : List Str) : stripGo x ((i, quote) :: r) st (some o) res = stripGo x r (i + 1) none (if st ≠ o then res ++ [Txt.slice x (some st) (some o)] else res) := by rw [go_cons, if_pos rfl]
theorem cd_slice (x : Str) {a b : Nat} (hab : a ≤ b) (hb : b ≤ (cd x).length) : cd (Txt.slice x (some (a : Int)) (some (b : Int))) = ((cd x).drop a).take (b - a) := by
  have e : Txt.slice x (some (a : Int)) (some (b : Int)) = StrLaws.sliceText x (some (a : Int)) (some (b : Int)) := rfl
  rw [e, StrLaws.sliceText_nat x hab (by rw [← cd_len]; exact hb)]
  rfl
theorem cd_sliceF (x : Str) {a : Nat} (ha : a ≤ (cd x).length) : cd (Txt.slice x (some (a : Int)) none) = (cd x).drop a := by
  have e : Txt.slice x (some (a : Int)) none = StrLaws.sliceText x (some (a : Int)) none := rfl
  rw [e, StrLaws.sliceText_from ⟨by omega, by simpa [cd] using ha⟩]
  show ((cd x).drop ((a : Int)).toNat).take (((cd x).length : Int) - a).toNat = _
  rw [Int.toNat_natCast]
  refine List.take_of_length_le ?_
  rw [List.length_drop]; omega
theorem flat_acc (x : Str) (res : List Str) {u v : List Nat} {t : List Nat} {st o : Nat} (hx : cd x = u ++ v ++ t) (h1 : st = u.length) (h2 : o = u.length + v.length) : flat (if st ≠ o then res ++ [Txt.slice x (some (st : Int)) (some (o : Int))] else res) = flat res ++ v := by
  have hl : (cd x).length = u.length + v.length + t.length := by rw [hx, List.length_append, List.length_append]
  by_cases h : st = o
  · rw [if_neg (by simpa using h)]
    have : v = [] := List.length_eq_zero_iff.mp (by omega)
    rw [this, List.append_nil]
  · rw [if_pos h, flat_app, flat_cons, flat_nil, List.append_nil, cd_slice x (by omega) (by omega), hx, h1, h2, List.append_assoc, List.drop_left, show u.length + v.length - u.length = v.length by omega, List.take_left]
theorem contains_quote {x : Str} (h : 34 ∈ cd x) : Txt.contains x quote = true := by
  obtain ⟨i, hi, e⟩ := List.mem_iff_getElem.mp h
  have := (StrLaws.found_iff x ⟨#[34]⟩).mpr ⟨i, (StrLaws.subAt_one x 34 i).mpr (by rw [show x.cps.toList = cd x from rfl, List.getElem?_eq_getElem hi, e])⟩
  rw [quote_eq]
  exact this
theorem strip_of {x : Str} (hc : Txt.contains x quote = true) {T : List Str} (hT : ∀ y ∈ T, tokB y = true) {tail : List Nat} (hx : cd x = flat T ++ tail) {st : Nat} {res : List Str} (hst : st ≤ (cd x).length)
    (hg : stripGo x (unitsL T 0 ++ escL tail (flat T).length false) 0 none [] = (st, res)) : cd (stripC x) = flat res ++ (cd x).drop st := by
  unfold stripC
  rw [if_neg (by rw [hc]; exact Bool.noConfusion)]
  have e : escL x.cps.toList 0 false = unitsL T 0 ++ escL tail (flat T).length false := by
    rw [show x.cps.toList = cd x from rfl, hx, escL_tok T hT, Nat.zero_add]
  rw [e, hg]
  show cd (joinE (if st < x.length then res ++ [Txt.slice x (some (st : Int)) none] else res)) = _
  rw [cd_joinE]
  by_cases h : st < x.length
  · rw [if_pos h, flat_app, flat_cons, flat_nil, List.append_nil, cd_sliceF x hst]
  · rw [if_neg h]
    have : (cd x).drop st = [] := List.drop_eq_nil_iff.mpr (by rw [cd_len]; omega)
    rw [this, List.append_nil]
/-- words: tokens, none of them the mark -/
def Wd (A : List Str) : Prop := ∀ y ∈ A, tokB y = true ∧ y ≠ quote
theorem Wd.tok {A : List Str} (h : Wd A) : ∀ y ∈ A, tokB y = true := fun y hy => (h y hy).1
theorem Wd.nq {A : List Str} (h : Wd A) : ∀ y ∈ A, y ≠ quote := fun y hy => (h y hy).2
theorem tok_quote : tokB quote = true := by decide
theorem mem4 {A B C D : List Str} (hA : Wd A) (hB : Wd B) (hC : Wd C) (hD : Wd D) : ∀ y ∈ A ++ quote :: (B ++ quote :: (C ++ quote :: D)), tokB y = true := by
  intro y hy
  simp only [List.mem_append, List.mem_cons] at hy
  rcases hy with h | h | h | h | h | h | h
  · exact hA.tok y h
  · rw [h]; exact tok_quote
  · exact hB.tok y h
  · rw [h]; exact tok_quote
  · exact hC.tok y h
  · rw [h]; exact tok_quote
  · exact hD.tok y h
theorem flat4 (A B C D : List Str) : flat (A ++ quote :: (B ++ quote :: (C ++ quote :: D))) = flat A ++ [34] ++ flat B ++ [34] ++ flat C ++ [34] ++ flat D := by
  simp only [flat_app, flat_cons, cd_quote, List.append_assoc]
theorem strip_text {x : Str} {A B C D : List Str} (hA : Wd A) (hB : Wd B) (hC : Wd C) (hD : Wd D) (hx : cd x = flat A ++ [34] ++ flat B ++ [34] ++ flat C ++ [34] ++ flat D) : cd (stripC x) = flat A ++ flat C ++ [34] ++ flat D := by
  have hc : Txt.contains x quote = true := contains_quote (by rw [hx]; simp)
  have hx' : cd x = flat (A ++ quote :: (B ++ quote :: (C ++ quote :: D))) ++ [] := by rw [hx, flat4, List.append_nil]
  have hlen : (cd x).length = (flat A).length + 1 + (flat B).length + 1 + (flat C).length + 1 + (flat D).length := by rw [hx]; simp only [List.length_append, List.length_cons, List.length_nil] <;> omega
  refine (strip_of hc (mem4 hA hB hC hD) hx' (st := (flat A).length + 1 + (flat B).length + 1) (res := if 0 ≠ (flat A).length then [] ++ [Txt.slice x (some ((0 : Nat) : Int)) (some ((flat A).length : Int))] else []) (by omega) ?_).trans ?_
  · simp only [unitsL_app, units_q, escL, List.append_nil, Nat.zero_add]
    rw [go_skip _ _ _ _ _ _ _ hA.nq, go_open, go_skip _ _ _ _ _ _ _ hB.nq, go_close, go_skip _ _ _ _ _ _ _ hC.nq, go_open, go_skip' _ _ _ _ _ _ hD.nq]
  · rw [flat_acc x [] (st := 0) (o := (flat A).length) (u := []) (v := flat A) (t := [34] ++ flat B ++ [34] ++ flat C ++ [34] ++ flat D) (by rw [hx]; simp) rfl (by simp)]
    rw [show cd x = (flat A ++ [34] ++ flat B ++ [34]) ++ (flat C ++ [34] ++ flat D) by rw [hx]; simp, List.drop_left' (by simp only [List.length_append, List.length_cons, List.length_nil] <;> omega)]
    simp [flat_nil]
theorem strip_one {x : Str} {A B C D : List Str} (hA : Wd A) (hB : Wd B) (hC : Wd C) (hD : Wd D) (hx : cd x = [34] ++ (flat A ++ [34] ++ flat B ++ [34] ++ flat C ++ [34] ++ flat D)) : cd (stripC x) = flat B ++ flat D := by
  have hc : Txt.contains x quote = true := contains_quote (by rw [hx]; simp)
  have hx' : cd x = flat (quote :: (A ++ quote :: (B ++ quote :: (C ++ quote :: D)))) ++ [] := by rw [hx, flat_cons, flat4, List.append_nil, cd_quote]
  have hT : ∀ y ∈ quote :: (A ++ quote :: (B ++ quote :: (C ++ quote :: D))), tokB y = true := fun y hy => by
    rcases List.mem_cons.mp hy with rfl | hy
    · exact tok_quote
    · exact mem4 hA hB hC hD y hy
  have hlen : (cd x).length = 1 + (flat A).length + 1 + (flat B).length + 1 + (flat C).length + 1 + (flat D).length := by rw [hx]; simp only [List.length_append, List.length_cons, List.length_nil] <;> omega
  refine (strip_of hc hT hx' (st := 1 + (flat A).length + 1 + (flat B).length + 1 + (flat C).length + 1) (res := if 1 + (flat A).length + 1 ≠ 1 + (flat A).length + 1 + (flat B).length then [] ++ [Txt.slice x (some ((1 + (flat A).length + 1 : Nat) : Int)) (some ((1 + (flat A).length + 1 + (flat B).length : Nat) : Int))] else []) (by omega) ?_).trans ?_
  · simp only [unitsL_app, units_q, escL, List.append_nil, Nat.zero_add]
    rw [go_open, go_skip _ _ _ _ _ _ _ hA.nq, go_close, if_neg (by simp), go_skip _ _ _ _ _ _ _ hB.nq, go_open, go_skip _ _ _ _ _ _ _ hC.nq, go_close, go_skip' _ _ _ _ _ _ hD.nq]
  · rw [flat_acc x [] (u := [34] ++ flat A ++ [34]) (v := flat B) (t := [34] ++ flat C ++ [34] ++ flat D) (by rw [hx]; simp) (by simp only [List.length_append, List.length_cons, List.length_nil] <;> omega) (by simp only [List.length_append, List.length_cons, List.length_nil] <;> omega)]
    rw [show cd x = ([34] ++ flat A ++ [34] ++ flat B ++ [34] ++ flat C ++ [34]) ++ flat D by rw [hx]; simp, List.drop_left' (by simp only [List.length_append, List.length_cons, List.length_nil] <;> omega)]
    simp [flat_nil]
theorem strip_zero {x : Str} {A B C D : List Str} (hA : Wd A) (hB : Wd B) (hC : Wd C) (hD : Wd D) (hx : cd x = (flat A ++ [34] ++ flat B ++ [34] ++ flat C ++ [34] ++ flat D) ++ [34]) : cd (stripC x) = flat A ++ flat C := by
  have hc : Txt.contains x quote = true := contains_quote (by rw [hx]; simp)
  have hx' : cd x = flat (A ++ quote :: (B ++ quote :: (C ++ quote :: (D ++ quote :: [])))) ++ [] := by
    rw [hx]; simp only [flat_app, flat_cons, flat_nil, cd_quote, List.append_nil, List.append_assoc]
  have hT : ∀ y ∈ A ++ quote :: (B ++ quote :: (C ++ quote :: (D ++ quote :: []))), tokB y = true := by
    intro y hy
    simp only [List.mem_append, List.mem_cons] at hy
    rcases hy with h | h | h | h | h | h | h | h | h
    · exact hA.tok y h
    · rw [h]; exact tok_quote
    · exact hB.tok y h
    · rw [h]; exact tok_quote
    · exact hC.tok y h
    · rw [h]; exact tok_quote
    · exact hD.tok y h
    · rw [h]; exact tok_quote
    · cases h
  have hlen : (cd x).length = (flat A).length + 1 + (flat B).length + 1 + (flat C).length + 1 + (flat D).length + 1 := by rw [hx]; simp only [List.length_append, List.length_cons, List.length_nil] <;> omega
  generalize hr1 : (if 0 ≠ (flat A).length then ([] : List Str) ++ [Txt.slice x (some ((0 : Nat) : Int)) (some ((flat A).length : Int))] else []) = res1
  have hf1 : flat res1 = flat A := by
    rw [← hr1, flat_acc x [] (st := 0) (o := (flat A).length) (u := []) (v := flat A) (t := [34] ++ flat B ++ [34] ++ flat C ++ [34] ++ flat D ++ [34]) (by rw [hx]; simp) rfl (by simp)]
    simp [flat_nil]
  refine (strip_of hc hT hx' (st := (flat A).length + 1 + (flat B).length + 1 + (flat C).length + 1 + (flat D).length + 1) (res := if (flat A).length + 1 + (flat B).length + 1 ≠ (flat A).length + 1 + (flat B).length + 1 + (flat C).length then res1 ++ [Txt.slice x (some (((flat A).length + 1 + (flat B).length + 1 : Nat) : Int)) (some (((flat A).length + 1 + (flat B).length + 1 + (flat C).length : Nat) : Int))] else res1) (by omega) ?_).trans ?_
  · simp only [unitsL_app, units_q, escL, List.append_nil, Nat.zero_add]
    rw [go_skip _ _ _ _ _ _ _ hA.nq, go_open, go_skip _ _ _ _ _ _ _ hB.nq, go_close, hr1, go_skip _ _ _ _ _ _ _ hC.nq, go_open, go_skip _ _ _ _ _ _ _ hD.nq, go_close]
    rfl
  · rw [flat_acc x res1 (u := flat A ++ [34] ++ flat B ++ [34]) (v := flat C) (t := [34] ++ flat D ++ [34]) (by rw [hx]; simp) (by simp only [List.length_append, List.length_cons, List.length_nil] <;> omega) (by simp only [List.length_append, List.length_cons, List.length_nil] <;> omega), hf1]
    rw [List.drop_eq_nil_iff.mpr (by omega), List.append_nil]
theorem strip_none {x : Str} {A : List Str} {tail : List Nat} (hA : Wd A) (hx : cd x = flat A ++ tail) (ht : ∀ r, stripGo x (escL tail (flat A).length false) 0 none r = (0, r)) : cd (stripC x) = cd x := by
  cases hc : Txt.contains x quote with
  | false => unfold stripC; rw [if_pos hc]
  | true =>
    refine (strip_of hc hA.tok hx (st := 0) (res := []) (Nat.zero_le _) ?_).trans (by simp [flat_nil])
    rw [go_skip _ _ _ _ _ _ _ hA.nq]
    exact ht []
end Mine
end
section
open PySem PySem.W PySem.W.X PyProof.Rows PySem.Calls PySem.SeqAt
set_option maxRecDepth 100000
set_option maxHeartbeats 2000000
namespace Mine

def wordB (y : Str) : Bool := tokB y && decide (y ≠ quote) && decide (1 ≤ y.length ∧ y.length ≤ 2) && (Txt.charAt y (-1)).isSome && y.cps.toList.all (· < 128)
theorem w9_word {k v : Nat} (hk : k < 3) (hv : v < 3) : wordB (w9 k v) = true := by
  have : (List.range 3).all (fun k => (List.range 3).all fun v => wordB (w9 k v)) = true := by decide +kernel
  have h1 := List.all_eq_true.mp this k (List.mem_range.mpr hk)
  exact List.all_eq_true.mp h1 v (List.mem_range.mpr hv)
theorem Beads.word {ws : List Str} (B : Beads ws) : ∀ y ∈ ws, wordB y = true := fun y hy => by
  obtain ⟨k, v, hk, hv, rfl⟩ := B.mem y hy
  exact w9_word hk hv
structure Word (y : Str) : Prop where
  tok : tokB y = true
  nq : y ≠ quote
  len : 1 ≤ y.length ∧ y.length ≤ 2
  ch : (Txt.charAt y (-1)).isSome = true
  asc : ∀ c ∈ cd y, c < 128
theorem word_of {y : Str} (h : wordB y = true) : Word y := by
  unfold wordB at h
  simp only [Bool.and_eq_true, decide_eq_true_eq] at h
  obtain ⟨⟨⟨⟨h1, h2⟩, h3⟩, h4⟩, h5⟩ := h
  exact ⟨h1, h2, h3, h4, fun c hc => by simpa using List.all_eq_true.mp h5 c hc⟩
abbrev Wds (A : List Str) : Prop := ∀ y ∈ A, Word y
theorem Wds.wd {A : List Str} (h : Wds A) : Wd A := fun y hy => ⟨(h y hy).tok, (h y hy).nq⟩
theorem Wds.flat_le {A : List Str} (h : Wds A) : (flat A).length ≤ 2 * A.length := by
  induction A with
  | nil => simp [flat]
  | cons a r ih =>
    have h1 := (h a (List.mem_cons_self ..)).len.2
    have h2 := ih fun y hy => h y (List.mem_cons_of_mem _ hy)
    rw [flat_cons, List.length_append, cd_len, List.length_cons]; omega
theorem Wds.asc {A : List Str} (h : Wds A) : ∀ c ∈ flat A, c < 128 := fun c hc => by
  obtain ⟨y, hy, hc⟩ := List.mem_flatMap.mp hc
  exact (h y hy).asc c hc
theorem Wds.app {A B : List Str} (h : Wds A) (h' : Wds B) : Wds (A ++ B) := fun y hy => by
  rcases List.mem_append.mp hy with hy | hy
  · exact h y hy
  · exact h' y hy
theorem asc_of {x : Str} (h : ∀ c ∈ cd x, c < 128) : x.cps.all (· < 128) = true := by
  rw [← Array.all_toList, List.all_eq_true]
  intro c hc
  simpa using h c hc
theorem pcs_sub (ws : List Str) (n i j q : Nat) : ∀ y ∈ pcs ws n i j q, y ∈ ws := fun y hy => List.mem_of_mem_drop (List.mem_of_mem_take hy)
theorem pcs_le (ws : List Str) (n i j q : Nat) : (pcs ws n i j q).length ≤ ws.length := by simp [pcs]; omega
theorem sum_len (ps : List Str) : (ps.map (·.length)).sum = (flat ps).length := sumL_flat ps
theorem joinOk_words {ps : List Str} (h : Wds ps) (hl : ps.length ≤ 100) : JoinOk (Str.ofString "") ps = true := joinOk_of (by
  have h1 := h.flat_le
  have h2 : (Str.ofString "").length = 0 := by decide
  rw [sum_len, h2]; omega)
theorem joinE_len (ps : List Str) : (joinE ps).length = (flat ps).length := by rw [← cd_len, cd_joinE]
theorem sideN_cases (i j : Nat) : sideN i j = 0 ∨ sideN i j = 1 := by unfold sideN; omega
theorem txt_len {ws : List Str} {n i j : Nat} (hw : Wds ws) (hl : ws.length ≤ 8) : (txt ws n i j).length ≤ 67 := by
  have f : ∀ q, (flat (pcs ws n i j q)).length ≤ 16 := fun q => by
    have h1 : Wds (pcs ws n i j q) := fun y hy => hw y (pcs_sub _ _ _ _ _ y hy)
    have h2 := h1.flat_le
    have h3 := pcs_le ws n i j q
    omega
  have f0 := f 0
  have f1 := f 1
  have f2 := f 2
  have f3 := f 3
  rw [← cd_len, cd_txt]
  simp only [List.length_append, List.length_cons, List.length_nil]
  omega
theorem txt_asc {ws : List Str} {n i j : Nat} (hw : Wds ws) : ∀ c ∈ cd (txt ws n i j), c < 128 := by
  have f : ∀ q, ∀ c ∈ flat (pcs ws n i j q), c < 128 := fun q => Wds.asc (A := pcs ws n i j q) fun y hy => hw y (pcs_sub _ _ _ _ _ y hy)
  intro c hc
  rw [cd_txt] at hc
  simp only [List.mem_append, List.mem_singleton] at hc
  rcases hc with (((((h | h) | h) | h) | h) | h) | h
  · exact f 0 c h
  · rw [h]; decide
  · exact f 1 c h
  · rw [h]; decide
  · exact f 2 c h
  · rw [h]; decide
  · exact f 3 c h
theorem cd_inp (ws : List Str) (n i j : Nat) (hw : Wds ws) : cd (stripC (inp ws n i j)) = flat (kept ws n i j) := by
  have f : ∀ q, Wd (pcs ws n i j q) := fun q => Wds.wd fun y hy => hw y (pcs_sub _ _ _ _ _ y hy)
  unfold kept
  rw [flat_app]
  rcases sideN_cases i j with h | h
  · have hx : cd (inp ws n i j) = (flat (pcs ws n i j 0) ++ [34] ++ flat (pcs ws n i j 1) ++ [34] ++ flat (pcs ws n i j 2) ++ [34] ++ flat (pcs ws n i j 3)) ++ [34] := by
      unfold inp
      rw [if_neg (by omega), cd_app, cd_txt, cd_quote]
    rw [strip_zero (f 0) (f 1) (f 2) (f 3) hx, h]
  · have hx : cd (inp ws n i j) = [34] ++ (flat (pcs ws n i j 0) ++ [34] ++ flat (pcs ws n i j 1) ++ [34] ++ flat (pcs ws n i j 2) ++ [34] ++ flat (pcs ws n i j 3)) := by
      unfold inp
      rw [if_pos h, cd_app, cd_txt, cd_quote]
    rw [strip_one (f 0) (f 1) (f 2) (f 3) hx, h]
theorem kept_sub (ws : List Str) (n i j : Nat) : ∀ y ∈ kept ws n i j, y ∈ ws := fun y hy => by
  rcases List.mem_append.mp hy with hy | hy
  · exact pcs_sub _ _ _ _ _ y hy
  · exact pcs_sub _ _ _ _ _ y hy
theorem pcs_len {ws : List Str} {n i j q : Nat} (hl : ws.length = 2 * n) (hi : i ≤ n) (hj : j ≤ n) (hq : q < 4) : (pcs ws n i j q).length = cutN n i j (q + 1) - cutN n i j q := by
  have h := cutN_mono (n := n) (i := i) (j := j) (k := q) hi hj hq
  unfold pcs
  rw [List.length_take, List.length_drop, hl]
  omega
theorem kept_len {ws : List Str} {n i j : Nat} (hl : ws.length = 2 * n) (hi : i ≤ n) (hj : j ≤ n) : (kept ws n i j).length = n := by
  unfold kept
  rw [List.length_append]
  rcases sideN_cases i j with h | h
  · rw [h, pcs_len hl hi hj (by decide), pcs_len hl hi hj (by decide)]
    simp only [cutN]; omega
  · rw [h, pcs_len hl hi hj (by decide), pcs_len hl hi hj (by decide)]
    simp only [cutN]; omega
theorem txtOk {ws : List Str} {n i j : Nat} (hw : Wds ws) (hl : ws.length = 2 * n) (hn : n ≤ 4) (hi : i ≤ n) (hj : j ≤ n) : TxtOk ws n i j := by
  have f : ∀ q, Wds (pcs ws n i j q) := fun q y hy => hw y (pcs_sub _ _ _ _ _ y hy)
  have l8 : ∀ q, (pcs ws n i j q).length ≤ 8 := fun q => by have := pcs_le ws n i j q; omega
  have g : ∀ q, (flat (pcs ws n i j q)).length ≤ 16 := fun q => by
    have h2 := (f q).flat_le
    have h3 := l8 q
    omega
  have tl := txt_len (n := n) (i := i) (j := j) hw (by omega)
  have hk : Wds (kept ws n i j) := fun y hy => hw y (kept_sub _ _ _ _ y hy)
  have hkl := kept_len hl hi hj
  have hkf := hk.flat_le
  have ql : quote.length = 1 := by decide
  have il : (inp ws n i j).length ≤ 68 := by
    unfold inp
    split <;> rw [Str.length_append, ql] <;> omega
  have ia : ∀ c ∈ cd (inp ws n i j), c < 128 := by
    intro c hc
    unfold inp at hc
    split at hc <;> rw [cd_app, cd_quote] at hc <;> rcases List.mem_append.mp hc with h | h
    · rw [List.mem_singleton.mp h]; decide
    · exact txt_asc hw c h
    · exact txt_asc hw c h
    · rw [List.mem_singleton.mp h]; decide
  refine ⟨fun q _ => joinOk_words (f q) (by have := l8 q; omega), ?_, ?_, fun q _ => l8 q, asc_of (txt_asc hw), by omega, fun _ => ?_, asc_of ia, by omega, asc_of ?_, ?_, ?_, fun y hy => ⟨(hk y hy).len, (hk y hy).ch⟩⟩
  · refine joinOk_of ?_
    have g0 := g 0
    have g1 := g 1
    have g2 := g 2
    have g3 := g 3
    have e : ((List.range 4).map fun k => joinE (pcs ws n i j k)) = [joinE (pcs ws n i j 0), joinE (pcs ws n i j 1), joinE (pcs ws n i j 2), joinE (pcs ws n i j 3)] := rfl
    rw [e, ql]
    simp only [List.map_cons, List.map_nil, List.sum_cons, List.sum_nil, List.length_cons, List.length_nil, joinE_len]
    omega
  · refine joinOk_of ?_
    have g0 := g 0
    have g2 := g 2
    have g3 := g 3
    have e0 : (Str.ofString "").length = 0 := by decide
    rw [sum_len, e0]
    simp only [flat_app, flat_cons, flat_nil, cd_quote, List.length_append, List.length_cons, List.length_nil]
    omega
  · refine cd_ext ?_
    rw [cd_joinE, strip_text (f 0).wd (f 1).wd (f 2).wd (f 3).wd (cd_txt ws n i j)]
    simp only [flat_app, flat_cons, flat_nil, cd_quote, List.append_nil]
  · rw [cd_inp ws n i j hw]; exact hk.asc
  · rw [← cd_len, cd_inp ws n i j hw]; omega
  · rw [show (stripC (inp ws n i j)).cps.toList = cd (stripC (inp ws n i j)) from rfl, cd_inp ws n i j hw]
    have := escL_tok (kept ws n i j) hk.wd.tok [] 0
    rw [List.append_nil] at this
    rw [this]
    simp [escL]
theorem preOk {ws : List Str} (hw : Wds ws) (hl : ws.length ≤ 8) : PreOk ws := by
  have hf := hw.flat_le
  have bl : bsl.length = 1 := by decide
  have hx : cd (joinE ws ++ bsl) = flat ws ++ [92] := by rw [cd_app, cd_joinE, cd_bsl]
  have asc : ∀ c ∈ cd (joinE ws ++ bsl), c < 128 := fun c hc => by
    rw [hx] at hc
    rcases List.mem_append.mp hc with h | h
    · exact hw.asc c h
    · rw [List.mem_singleton.mp h]; decide
  have hlen : (joinE ws ++ bsl).length = (flat ws).length + 1 := by rw [← cd_len, hx]; simp
  have hs : stripC (joinE ws ++ bsl) = joinE ws ++ bsl := cd_ext (strip_none hw.wd hx fun r => by
    show stripGo _ [((flat ws).length + 1 - 1, (⟨#[92]⟩ : Str))] 0 none r = (0, r)
    rw [go_cons, if_neg (by rw [quote_eq]; decide)]
    rfl)
  refine ⟨joinOk_words hw (by omega), by rw [joinE_len]; omega, asc_of asc, by omega, by rw [hs]; exact asc_of asc, by rw [hs]; omega, ?_, fun y hy => ⟨(hw y hy).len, (hw y hy).ch⟩⟩
  rw [hs, show (joinE ws ++ bsl).cps.toList = cd (joinE ws ++ bsl) from rfl, hx, escL_tok ws hw.wd.tok, unitsL_snoc, Nat.zero_add, Nat.zero_add, sumL_flat, bl]
  congr 1
end Mine
end
section
open PySem PySem.W PySem.W.X PyProof.Rows PySem.Calls PySem.SeqAt
set_option maxRecDepth 100000
set_option maxHeartbeats 2000000
namespace Mine

def nmB (b : Bool) (c0 c1 c2 : Nat) : Str := if b then Txt.upper (nameS c0 c1 c2) else nameS c0 c1 c2
theorem nmC_eq (c0 c1 c2 j : Nat) : nmC c0 c1 c2 j = nmB ((j : Int).fmod 2 == 1) c0 c1 c2 := rfl
def grid (m : Nat) (p : Nat → Nat → Nat → Bool) : Bool := (List.range m).all fun x => (List.range m).all fun y => (List.range m).all fun z => p x y z
theorem grid_get {m : Nat} {p : Nat → Nat → Nat → Bool} (h : grid m p = true) {x y z : Nat} (hx : x < m) (hy : y < m) (hz : z < m) : p x y z = true :=
  List.all_eq_true.mp (List.all_eq_true.mp (List.all_eq_true.mp h x (List.mem_range.mpr hx)) y (List.mem_range.mpr hy)) z (List.mem_range.mpr hz)
theorem nm_grid : grid 5 (fun x y z => decide (4 < x + y + z) || (okS (nmB true x y z) && okS (nmB false x y z) && decide (Txt.lower (nmB true x y z) = nameS x y z) && decide (Txt.lower (nmB false x y z) = nameS x y z))) = true := by decide +kernel
theorem dec_grid : grid 9 (fun x y z => (cd (nameS x y z)).count 114 == x && (cd (nameS x y z)).count 103 == y && (cd (nameS x y z)).count 98 == z) = true := by decide +kernel
theorem ab_grid : grid 5 (fun x y z => decide (4 < x + y + z) || (decide (Txt.lower (nmB false (2 * x) (2 * y) (2 * z)) = nameS (2 * x : Nat) (2 * y : Nat) (2 * z : Nat)) && okS (nameS (2 * x : Nat) (2 * y : Nat) (2 * z : Nat)) && decide ((nmB false (2 * x) (2 * y) (2 * z)).length ≤ 80))) = true := by decide +kernel
theorem four_grid : grid 5 (fun x y z => decide (4 < x + y + z) || decide (x + y + z < 3) || ((four (nmB true x y z)).all (fun p => okS p.1 && okS p.2) && decide (allC (four (nmB true x y z)) (nameS x y z) = []) && decide (allC (four (nmB true x y z)) (nameS (2 * x : Nat) (2 * y : Nat) (2 * z : Nat)) = []) && decide ((nmB true x y z).length ≤ 80))) = true := by decide +kernel
theorem way_grid : (List.range 5).all (fun i => (List.range 5).all fun j => okS (wayS i j)) = true := by decide +kernel
theorem nm_ok {x y z : Nat} (b : Bool) (hs : x + y + z ≤ 4) : okS (nmB b x y z) = true ∧ Txt.lower (nmB b x y z) = nameS x y z := by
  have h := grid_get nm_grid (x := x) (y := y) (z := z) (by omega) (by omega) (by omega)
  rw [decide_eq_false (by omega : ¬ 4 < x + y + z), Bool.false_or] at h
  simp only [Bool.and_eq_true, decide_eq_true_eq] at h
  cases b
  · exact ⟨h.1.1.2, h.2⟩
  · exact ⟨h.1.1.1, h.1.2⟩
theorem name_inj {x y z x' y' z' : Nat} (hx : x ≤ 8) (hy : y ≤ 8) (hz : z ≤ 8) (hx' : x' ≤ 8) (hy' : y' ≤ 8) (hz' : z' ≤ 8) (e : nameS x y z = nameS x' y' z') : x = x' ∧ y = y' ∧ z = z' := by
  have h := grid_get dec_grid (x := x) (y := y) (z := z) (by omega) (by omega) (by omega)
  have h' := grid_get dec_grid (x := x') (y := y') (z := z') (by omega) (by omega) (by omega)
  simp only [Bool.and_eq_true, beq_iff_eq] at h h'
  rw [e] at h
  exact ⟨h.1.1.symm.trans h'.1.1, h.1.2.symm.trans h'.1.2, h.2.symm.trans h'.2⟩
end Mine
end
section
open PySem PySem.W PySem.W.X PyProof.Rows PySem.Calls PySem.SeqAt
set_option maxRecDepth 100000
set_option maxHeartbeats 2000000
namespace Mine

def pcsG {α : Type} (l : List α) (n i j k : Nat) : List α := (l.drop (cutN n i j k)).take (cutN n i j (k + 1) - cutN n i j k)
def keptG {α : Type} (l : List α) (n i j : Nat) : List α := pcsG l n i j (sideN i j) ++ pcsG l n i j (sideN i j + 2)
theorem keptG_map {α β : Type} (f : α → β) (l : List α) (n i j : Nat) : (keptG l n i j).map f = keptG (l.map f) n i j := by
  simp [keptG, pcsG, List.map_take, List.map_drop]
def goodK (n : Nat) (ks : List Nat) (a b c i j : Nat) : Bool := 2 * (keptG ks n i j).count 0 == a && (2 * (keptG ks n i j).count 1 == b && 2 * (keptG ks n i j).count 2 == c)
def testK (n : Nat) (ks : List Nat) (a b c : Nat) : Bool := (List.range n).any fun i => (List.range n).any fun j => goodK n ks a b c i (j + 1)
/-- all words of m more letters ahead of l; a, b, c: how many of this letter l has -/
def chk (n : Nat) : Nat → List Nat → Nat → Nat → Nat → Bool
  | 0, l, a, b, c => a % 2 == 1 || (b % 2 == 1 || (c % 2 == 1 || testK n l a b c))
  | m + 1, l, a, b, c => chk n m (0 :: l) (a + 1) b c && (chk n m (1 :: l) a (b + 1) c && chk n m (2 :: l) a b (c + 1))
theorem chk_get (n : Nat) : ∀ (m : Nat) (l : List Nat), chk n m l (l.count 0) (l.count 1) (l.count 2) = true → ∀ w : List Nat, w.length = m → (∀ x ∈ w, x < 3) → (∀ q, (w.reverse ++ l).count q % 2 = 0) →
    testK n (w.reverse ++ l) ((w.reverse ++ l).count 0) ((w.reverse ++ l).count 1) ((w.reverse ++ l).count 2) = true
  | 0, l, h, w, hl, _, he => by
    have : w = [] := List.length_eq_zero_iff.mp hl
    subst this
    have he : ∀ q, l.count q % 2 = 0 := he
    unfold chk at h
    rw [he 0, he 1, he 2] at h
    exact h
  | m + 1, l, h, [], hl, _, _ => by simp at hl
  | m + 1, l, h, x :: w, hl, hx, he => by
    unfold chk at h
    simp only [Bool.and_eq_true] at h
    have hl' : w.length = m := by simpa using hl
    have hw : ∀ y ∈ w, y < 3 := fun y hy => hx y (List.mem_cons_of_mem _ hy)
    have h3 := hx x (List.mem_cons_self ..)
    have hx3 : x = 0 ∨ x = 1 ∨ x = 2 := by omega
    have e : (x :: w).reverse ++ l = w.reverse ++ (x :: l) := by simp
    rw [e] at he ⊢
    rcases hx3 with rfl | rfl | rfl
    · exact chk_get n m (0 :: l) (by simpa [List.count_cons] using h.1) w hl' hw he
    · exact chk_get n m (1 :: l) (by simpa [List.count_cons] using h.2.1) w hl' hw he
    · exact chk_get n m (2 :: l) (by simpa [List.count_cons] using h.2.2) w hl' hw he
theorem neck3 : chk 3 6 [] 0 0 0 = true := by decide +kernel
theorem neck4 : chk 4 8 [] 0 0 0 = true := by decide +kernel
theorem neck {n : Nat} (hn : n = 3 ∨ n = 4) {ks : List Nat} (hl : ks.length = 2 * n) (h3 : ∀ x ∈ ks, x < 3) (he : ∀ q, ks.count q % 2 = 0) : ∃ i j, i < n ∧ 1 ≤ j ∧ j ≤ n ∧ ∀ q, q < 3 → 2 * (keptG ks n i j).count q = ks.count q := by
  have hb : testK n ks (ks.count 0) (ks.count 1) (ks.count 2) = true := by
    have hm : ∀ x ∈ ks.reverse, x < 3 := fun x hx => h3 x (List.mem_reverse.mp hx)
    have er : ks.reverse.reverse ++ [] = ks := by rw [List.reverse_reverse, List.append_nil]
    have main := fun (h : chk n (2 * n) [] 0 0 0 = true) => chk_get n (2 * n) [] h ks.reverse (by rw [List.length_reverse, hl]) hm (fun q => by rw [er]; exact he q)
    rw [er] at main
    rcases hn with rfl | rfl
    · exact main neck3
    · exact main neck4
  unfold testK at hb
  obtain ⟨i, hi, hb⟩ := List.any_eq_true.mp hb
  obtain ⟨j, hj, hb⟩ := List.any_eq_true.mp hb
  have hi := List.mem_range.mp hi
  have hj := List.mem_range.mp hj
  refine ⟨i, j + 1, hi, by omega, by omega, fun q hq => ?_⟩
  unfold goodK at hb
  simp only [Bool.and_eq_true, beq_iff_eq] at hb
  match q, hq with
  | 0, _ => exact hb.1
  | 1, _ => exact hb.2.1
  | 2, _ => exact hb.2.2
/-- the kind of a word -/
def kN (y : Str) : Nat := (kI y).toNat
structure Kinds (ws : List Str) : Prop where
  k : ∀ y ∈ ws, kI y = (kN y : Int) ∧ kN y < 3
theorem Beads.kinds {ws : List Str} (B : Beads ws) : Kinds ws := ⟨fun y hy => by
  obtain ⟨k, v, hk, hv, rfl⟩ := B.mem y hy
  have := kI_w9 hk hv
  unfold kN
  rw [this]
  exact ⟨by simp, by simpa using hk⟩⟩
theorem Kinds.sub {ws us : List Str} (K : Kinds ws) (h : ∀ y ∈ us, y ∈ ws) : Kinds us := ⟨fun y hy => K.k y (h y hy)⟩
theorem Kinds.count {ws : List Str} (K : Kinds ws) (q : Nat) : cN ws q = (ws.map kN).count q := by
  unfold cN
  induction ws with
  | nil => rfl
  | cons a r ih =>
    have ha := (K.k a (List.mem_cons_self ..)).1
    rw [List.map_cons, List.map_cons, List.count_cons, List.count_cons, ih ⟨fun y hy => K.k y (List.mem_cons_of_mem _ hy)⟩, ha]
    congr 1
    by_cases h : kN a = q
    · simp [h]
    · have : ((kN a : Int) == (q : Int)) = false := by rw [beq_eq_false_iff_ne]; omega
      have h2 : (kN a == q) = false := by simpa using h
      rw [this, h2]
theorem count3 : ∀ (l : List Nat), (∀ x ∈ l, x < 3) → l.count 0 + l.count 1 + l.count 2 = l.length
  | [], _ => rfl
  | x :: l, h => by
    have ih := count3 l fun y hy => h y (List.mem_cons_of_mem _ hy)
    have hx := h x (List.mem_cons_self ..)
    have : x = 0 ∨ x = 1 ∨ x = 2 := by omega
    rcases this with rfl | rfl | rfl <;> simp [List.count_cons] <;> omega
theorem Kinds.sum {ws : List Str} (K : Kinds ws) : cN ws 0 + cN ws 1 + cN ws 2 = ws.length := by
  rw [K.count, K.count, K.count, count3 _ (fun x hx => by
    obtain ⟨y, hy, rfl⟩ := List.mem_map.mp hx
    exact (K.k y hy).2), List.length_map]
theorem kept_eq (ws : List Str) (n i j : Nat) : kept ws n i j = keptG ws n i j := rfl
theorem mem_row {i b : Nat} {p : Nat × Nat} (h : p ∈ row i b) : p.1 = i ∧ 1 ≤ p.2 ∧ p.2 ≤ b := by
  obtain ⟨c, hc, rfl⟩ := List.mem_map.mp h
  have := List.mem_range.mp hc
  exact ⟨rfl, Nat.succ_le_succ (Nat.zero_le _), this⟩
theorem mem_idxs {n m : Nat} {p : Nat × Nat} (h : p ∈ idxs n m) : p.1 < m ∧ 1 ≤ p.2 ∧ p.2 ≤ n := by
  obtain ⟨a, ha, h⟩ := List.mem_flatMap.mp h
  have := mem_row h
  have := List.mem_range.mp ha
  omega
theorem in_idxs {n i j : Nat} (hi : i < n) (h1 : 1 ≤ j) (hj : j ≤ n) : (i, j) ∈ idxs n n := by
  refine List.mem_flatMap.mpr ⟨i, List.mem_range.mpr hi, List.mem_map.mpr ⟨j - 1, List.mem_range.mpr (by omega), ?_⟩⟩
  rw [show j - 1 + 1 = j by omega]
theorem allC_app (a b : List (Str × Str)) (n : Str) : allC (a ++ b) n = allC a n ++ allC b n := by simp [allC]
theorem getC_head (ps : List (Str × Str)) (n : Str) : getC ps n = (allC ps n).head? := by
  unfold getC allC
  induction ps with
  | nil => rfl
  | cons p r ih =>
    by_cases h : Txt.lower p.1 = n
    · simp [List.find?_cons, List.filter_cons, h]
    · simpa [List.find?_cons, List.filter_cons, h] using ih
section
variable {ws : List Str} {n c0 c1 c2 : Nat}
theorem dues_none {is : List (Nat × Nat)} {x : Str} (h : ∀ p ∈ is, Txt.lower (dueP ws n p.1 p.2).1 ≠ x) : allC (duesL ws n is) x = [] := by
  unfold allC duesL
  rw [List.filter_eq_nil_iff.mpr]
  · rfl
  · intro q hq
    obtain ⟨p, hp, rfl⟩ := List.mem_map.mp hq
    simpa using h p hp
theorem dues_fair {wi : List Int} {x : Str} : ∀ {is : List (Nat × Nat)} (h : ∀ p ∈ is, (Txt.lower (dueP ws n p.1 p.2).1 = x ↔ fairP wi ws n p.1 p.2 = true)), allC (duesL ws n is) x = fairL wi ws n is
  | [], _ => rfl
  | p :: r, h => by
    have ih := dues_fair (is := r) fun q hq => h q (List.mem_cons_of_mem _ hq)
    have hp := h p (List.mem_cons_self ..)
    have e1 : allC (duesL ws n (p :: r)) x = allC [dueP ws n p.1 p.2] x ++ allC (duesL ws n r) x := allC_app [_] _ _
    have e2 : fairL wi ws n (p :: r) = fairL wi ws n [p] ++ fairL wi ws n r := by
      unfold fairL
      rw [← List.map_append, ← List.filter_append]; rfl
    rw [e1, e2, ih]
    congr 1
    by_cases hf : fairP wi ws n p.1 p.2 = true
    · have hl := hp.mpr hf
      have g1 : allC [dueP ws n p.1 p.2] x = [(dueP ws n p.1 p.2).2] := by simp [allC, hl]
      have g2 : fairL wi ws n [p] = [wayS p.1 p.2] := by simp [fairL, hf]
      rw [g1, g2]; rfl
    · have hl : ¬ Txt.lower (dueP ws n p.1 p.2).1 = x := fun q => hf (hp.mp q)
      have g1 : allC [dueP ws n p.1 p.2] x = [] := by simp [allC, hl]
      have g2 : fairL wi ws n [p] = [] := by simp [fairL, hf]
      rw [g1, g2]
end
theorem lawOk (ws : List Str) (n : Nat) (hn : n = 3 ∨ n = 4) (hl : ws.length = 2 * n) (B : Beads ws) : ∃ c0 c1 c2, LawOk ws n c0 c1 c2 := by
  have hw : Wds ws := fun y hy => word_of (B.word y hy)
  have hn4 : n ≤ 4 := by omega
  have K := B.kinds
  have hsum := K.sum
  have ev : ∀ q : Nat, cN ws q % 2 = 0 := fun q => B.even q
  have e0 := ev 0
  have e1 := ev 1
  have e2 := ev 2
  refine ⟨cN ws 0 / 2, cN ws 1 / 2, cN ws 2 / 2, ?_⟩
  have d0 : cN ws 0 = 2 * (cN ws 0 / 2) := by omega
  have d1 : cN ws 1 = 2 * (cN ws 1 / 2) := by omega
  have d2 : cN ws 2 = 2 * (cN ws 2 / 2) := by omega
  have ds : cN ws 0 / 2 + cN ws 1 / 2 + cN ws 2 / 2 = n := by omega
  have turnS : ∀ i j, i < n → 1 ≤ j → j ≤ n → cN (kept ws n i j) 0 + cN (kept ws n i j) 1 + cN (kept ws n i j) 2 = n := fun i j hi h1 hj => by
    rw [(K.sub (kept_sub ws n i j)).sum, kept_len hl (by omega) hj]
  generalize hc0 : cN ws 0 / 2 = c0 at d0 ds ⊢
  generalize hc1 : cN ws 1 / 2 = c1 at d1 ds ⊢
  generalize hc2 : cN ws 2 / 2 = c2 at d2 ds ⊢
  have lowD : ∀ i j, i < n → 1 ≤ j → j ≤ n → okS (dueP ws n i j).1 = true ∧ Txt.lower (dueP ws n i j).1 = nameS (cN (kept ws n i j) 0) (cN (kept ws n i j) 1) (cN (kept ws n i j) 2) := fun i j hi h1 hj => by
    have := turnS i j hi h1 hj
    show okS (nmC _ _ _ _) = true ∧ Txt.lower (nmC _ _ _ _) = _
    rw [nmC_eq]
    exact nm_ok _ (by omega)
  have hfour := grid_get four_grid (x := c0) (y := c1) (z := c2) (by omega) (by omega) (by omega)
  rw [decide_eq_false (by omega : ¬ 4 < c0 + c1 + c2), decide_eq_false (by omega : ¬ c0 + c1 + c2 < 3), Bool.false_or, Bool.false_or] at hfour
  simp only [Bool.and_eq_true, decide_eq_true_eq] at hfour
  obtain ⟨⟨⟨f1, f2⟩, f3⟩, f4⟩ := hfour
  have hab := grid_get ab_grid (x := c0) (y := c1) (z := c2) (by omega) (by omega) (by omega)
  rw [decide_eq_false (by omega : ¬ 4 < c0 + c1 + c2), Bool.false_or] at hab
  simp only [Bool.and_eq_true, decide_eq_true_eq] at hab
  obtain ⟨⟨a1, a2⟩, a3⟩ := hab
  have hnam := nm_ok (x := c0) (y := c1) (z := c2) true (by omega)
  have wi : wiN ws = [((2 * c0 : Nat) : Int), ((2 * c1 : Nat) : Int), ((2 * c2 : Nat) : Int)] := by unfold wiN; rw [d0, d1, d2]
  refine ⟨preOk hw (by omega), fun i j hi h1 hj => ?_, ds, d0, d1, d2, f1, ?_⟩
  · have ts := turnS i j hi h1 hj
    refine { toTxtOk := txtOk hw hl hn4 (by omega) hj, c := fun q hq => ?_, s := by omega, on := (lowD i j hi h1 hj).1, ov := ?_ }
    · match q, hq with
      | 0, _ => omega
      | 1, _ => omega
      | 2, _ => omega
    · exact List.all_eq_true.mp (List.all_eq_true.mp way_grid i (List.mem_range.mpr (by omega))) j (List.mem_range.mpr (by omega))
  · have eN : nmC c0 c1 c2 1 = nmB true c0 c1 c2 := rfl
    have eA : nmC (cN ws 0) (cN ws 1) (cN ws 2) 0 = nmB false (2 * c0) (2 * c1) (2 * c2) := by rw [d0, d1, d2]; rfl
    rw [eN, eA]
    have hallN : allC (four (nmB true c0 c1 c2) ++ duesL ws n (idxs n n)) (Txt.lower (nmB true c0 c1 c2)) = fairL (wiN ws) ws n (idxs n n) := by
      rw [hnam.2, allC_app, f2, List.nil_append]
      refine dues_fair fun p hp => ?_
      obtain ⟨h1, h2, h3⟩ := mem_idxs hp
      have ts := turnS p.1 p.2 h1 h2 h3
      rw [(lowD p.1 p.2 h1 h2 h3).2]
      unfold fairP
      rw [decide_eq_true_iff, wi]
      constructor
      · intro e
        obtain ⟨q0, q1, q2⟩ := name_inj (by omega) (by omega) (by omega) (by omega) (by omega) (by omega) e
        rw [q0, q1, q2]; simp
      · intro e
        have e := e
        simp only [List.cons.injEq, and_true] at e
        have q0 : cN (kept ws n p.1 p.2) 0 = c0 := by omega
        have q1 : cN (kept ws n p.1 p.2) 1 = c1 := by omega
        have q2 : cN (kept ws n p.1 p.2) 2 = c2 := by omega
        rw [q0, q1, q2]
    have hallA : allC (four (nmB true c0 c1 c2) ++ duesL ws n (idxs n n)) (Txt.lower (nmB false (2 * c0) (2 * c1) (2 * c2))) = [] := by
      rw [a1, allC_app, f3, List.nil_append]
      refine dues_none fun p hp e => ?_
      obtain ⟨h1, h2, h3⟩ := mem_idxs hp
      have ts := turnS p.1 p.2 h1 h2 h3
      rw [(lowD p.1 p.2 h1 h2 h3).2] at e
      obtain ⟨q0, q1, q2⟩ := name_inj (by omega) (by omega) (by omega) (by omega) (by omega) (by omega) e
      omega
    have hfair : ∃ f r, fairL (wiN ws) ws n (idxs n n) = f :: r := by
      obtain ⟨i, j, hi, h1, hj, hg⟩ := neck hn (ks := ws.map kN) (by rw [List.length_map, hl]) (fun x hx => by
        obtain ⟨y, hy, rfl⟩ := List.mem_map.mp hx
        exact (K.k y hy).2) (fun q => by rw [← K.count]; exact ev q)
      have hq : ∀ q, q < 3 → 2 * cN (kept ws n i j) q = cN ws q := fun q hq => by
        have := hg q hq
        rw [← keptG_map, ← kept_eq, ← (K.sub (kept_sub ws n i j)).count, ← K.count] at this
        exact this
      have g0 := hq 0 (by decide)
      have g1 := hq 1 (by decide)
      have g2 := hq 2 (by decide)
      have hm : wayS i j ∈ fairL (wiN ws) ws n (idxs n n) := by
        refine List.mem_map.mpr ⟨(i, j), List.mem_filter.mpr ⟨in_idxs hi h1 hj, ?_⟩, rfl⟩
        show fairP (wiN ws) ws n i j = true
        unfold fairP
        rw [decide_eq_true_iff]
        unfold wiN
        rw [← g0, ← g1, ← g2]; simp
      cases hh : fairL (wiN ws) ws n (idxs n n) with
      | nil => rw [hh] at hm; cases hm
      | cons f r => exact ⟨f, r, rfl⟩
    have hsq : n * n ≤ 16 := Nat.le_trans (Nat.mul_le_mul hn4 hn4) (by decide)
    refine { pl := fun p hp => ?_, ln := ?_, nl := f4, nk := ?_, al := a3, ak := ?_, na := hallN, ng := ?_, aa := hallA, ag := ?_ }
    · rcases List.mem_append.mp hp with hp | hp
      · have := List.all_eq_true.mp f1 p hp
        simp only [Bool.and_eq_true] at this
        exact okS.len this.1
      · obtain ⟨q, hq, rfl⟩ := List.mem_map.mp hp
        obtain ⟨h1, h2, h3⟩ := mem_idxs hq
        exact okS.len (lowD q.1 q.2 h1 h2 h3).1
    · rw [List.length_append]
      have h4 : (four (nmB true c0 c1 c2)).length = 4 := rfl
      have h5 : (duesL ws n (idxs n n)).length = n * n := by rw [duesL, List.length_map, idxs_len]
      omega
    · rw [hnam.2]
      have := nm_ok (x := c0) (y := c1) (z := c2) false (by omega)
      exact this.1
    · rw [a1]; exact a2
    · obtain ⟨f, r, e⟩ := hfair
      exact ⟨f, r, e, by rw [getC_head, hallN, e]; rfl⟩
    · rw [getC_head, hallA]; rfl
end Mine
end
section
open PySem PySem.W PySem.W.X PyProof.Rows PySem.Calls PySem.SeqAt
set_option maxRecDepth 100000
set_option maxHeartbeats 2000000
namespace Mine

theorem bare_of {a b : Array GenState} (ha : a = #[]) (hg : GG a b) : PyProof.Rows.AllBare b := fun y hy => by
  obtain ⟨j, hj, e⟩ := Array.mem_iff_getElem.mp hy
  have := hg.2.2 j y (by rw [ha]; exact Nat.zero_le _) (by rw [← e]; exact Array.getElem?_eq_getElem hj)
  rw [this]; rfl
theorem caller_ok : Ok 40 callerA := ⟨rfl, by decide, by decide⟩
theorem main (pure : ∀ ws n, (n = 3 ∨ n = 4) → ws.length = 2 * n → Beads ws → ∃ c0 c1 c2, LawOk ws n c0 c1 c2) : PySem.Challenge.rw_sn0040_01.Holds := by
  refine hd ?_
  intro w s₀ s₁ mg mb G Y fa o pm cd doc dV kV ho hd hcd hD hmg hg args vals as hpre hlay hrd hwl hlo
  have KX := kIn_of Y
  refine Ground.open G ?_
  intro T B D TE TW
  wrow_args hpre hlay hrd hwl hlo
  rename_i ns hs' hlay0 hL1 hr1 hl2 as1 as2 a xv as3 hL ra w1 r0 hI hr hcond hcond'
  x_fa T KX hmg
  obtain ⟨h, g, d, t, os⟩ := s₁
  have Tp0 : Tp w h := ⟨KX, ⟨mg, T.g⟩, ⟨mb, T.b, T.builtins⟩, T.nolimit⟩
  refine lawCall (k := 19) caller_ok Tp0 hL hI (by omega) pure fun h' g' t' kk hgg => ?_
  refine ⟨.inl ⟨_, _, [], rfl, fun cls => rfl, ReadsW.bool true, ?_, fun _ => ⟨List.nodup_nil, fun _ hm => (nomatch hm)⟩⟩, .of_keep kk, rfl, bare_of hg hgg⟩
  first | rfl | wrow_post
end Mine
end
theorem PySem.Challenge.cw_sn0040_01_holds : PySem.Challenge.rw_sn0040_01.Holds := by
  exact Mine.main Mine.lawOk
