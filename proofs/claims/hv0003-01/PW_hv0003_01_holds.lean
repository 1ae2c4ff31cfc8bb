import PyProof.Rows.All
import Wide.All
import OpenK.AllK
import Wide.FinOn
import PySem.Challenge.RW_hv0003_01
open PySem PySem.Spec PySem.Calls PyProof.Rows PySem.W
set_option Elab.async false
set_option maxRecDepth 100000
set_option linter.unusedVariables false
set_option maxHeartbeats 4000000
set_option genInjectivity false
set_option genSizeOf false
set_option genSizeOfSpec false
namespace Mine

/- a map of objects that are never changed again -/
abbrev Fz := Addr → Option Obj

mutual
inductive IsV (F : Fz) : Value → PyData → Prop
  | none : IsV F .none .none
  | bool (b) : IsV F (.bool b) (.bool b)
  | int (i t) : IsV F (.int i t) (.int i)
  | list {a o vs n xs} : F a = some o → o.cls = .type "list" → o.data = .seq vs n → IsVs F vs.toList xs → IsV F (.ref a) (.list xs)
  | tuple {a o vs n xs} : F a = some o → o.cls = .type "tuple" → o.data = .seq vs n → IsVs F vs.toList xs → IsV F (.ref a) (.tuple xs)
inductive IsVs (F : Fz) : List Value → List PyData → Prop
  | nil : IsVs F [] []
  | cons {v vs d ds} : IsV F v d → IsVs F vs ds → IsVs F (v :: vs) (d :: ds)
end

theorem IsV.mono {F F' : Fz} (h : ∀ a o, F a = some o → F' a = some o) {v d} (q : IsV F v d) : IsV F' v d :=
  IsV.rec (motive_1 := fun v d _ => IsV F' v d) (motive_2 := fun vs ds _ => IsVs F' vs ds) .none .bool .int (fun e c d _ r => .list (h _ _ e) c d r) (fun e c d _ r => .tuple (h _ _ e) c d r) .nil (fun _ _ a b => .cons a b) q
theorem IsVs.ind {F : Fz} {P : List Value → List PyData → Prop} (h0 : P [] []) (h1 : ∀ {v vs d ds}, IsV F v d → IsVs F vs ds → P vs ds → P (v :: vs) (d :: ds)) {vs ds} (q : IsVs F vs ds) : P vs ds :=
  IsVs.rec (motive_1 := fun _ _ _ => True) (motive_2 := fun vs ds _ => P vs ds) trivial (fun _ => trivial) (fun _ _ => trivial) (fun _ _ _ _ _ => trivial) (fun _ _ _ _ _ => trivial) h0 (fun a b _ r => h1 a b r) q
theorem IsVs.mono {F F' : Fz} (h : ∀ a o, F a = some o → F' a = some o) {vs ds} (q : IsVs F vs ds) : IsVs F' vs ds :=
  q.ind (P := fun vs ds => IsVs F' vs ds) .nil fun a _ r => .cons (a.mono h) r
theorem IsV.reads {F : Fz} {h : Heap} (i : ∀ a o, F a = some o → h.get? a = some o) {v d} (q : IsV F v d) : ∃ as, Reads h v d as :=
  IsV.rec (motive_1 := fun v d _ => ∃ as, Reads h v d as) (motive_2 := fun vs ds _ => ∃ as, ReadsAll h vs ds as) ⟨_, .none⟩ (fun b => ⟨_, .bool b⟩) (fun i t => ⟨_, .int i t⟩) (fun e c d _ r => r.elim fun _ q => ⟨_, .list (i _ _ e) c d q⟩) (fun e c d _ r => r.elim fun _ q => ⟨_, .tuple (i _ _ e) c d q⟩) ⟨_, .nil⟩ (fun _ _ a b => a.elim fun _ q => b.elim fun _ r => ⟨_, .cons q r⟩) q
theorem IsVs.reads {F : Fz} {h : Heap} (i : ∀ a o, F a = some o → h.get? a = some o) {vs ds} (q : IsVs F vs ds) : ∃ as, ReadsAll h vs ds as :=
  q.ind (P := fun vs ds => ∃ as, ReadsAll h vs ds as) ⟨_, .nil⟩ fun a _ b => (a.reads i).elim fun _ q => b.elim fun _ r => ⟨_, .cons q r⟩
theorem IsVs.length {F : Fz} {vs ds} (q : IsVs F vs ds) : vs.length = ds.length :=
  q.ind (P := fun vs ds => vs.length = ds.length) rfl fun _ _ r => congrArg (· + 1) r
theorem IsVs.append {F : Fz} {vs ds ws es} (q : IsVs F vs ds) (k : IsVs F ws es) : IsVs F (vs ++ ws) (ds ++ es) :=
  q.ind (P := fun vs ds => IsVs F (vs ++ ws) (ds ++ es)) k fun a _ r => .cons a r
theorem IsVs.one {F : Fz} {v d} (h : IsV F v d) : IsVs F [v] [d] := .cons h .nil
theorem IsVs.get {F : Fz} {vs ds} (q : IsVs F vs ds) : ∀ (k : Nat) {d}, ds[k]? = some d → ∃ v, vs[k]? = some v ∧ IsV F v d :=
  q.ind (P := fun vs ds => ∀ (k : Nat) {d}, ds[k]? = some d → ∃ v, vs[k]? = some v ∧ IsV F v d) (fun _ _ e => nomatch e) fun a _ r k => Nat.casesOn k (fun e => ⟨_, rfl, Option.some.inj e ▸ a⟩) fun k e => r k e
theorem IsVs.get' {F : Fz} {vs ds} (q : IsVs F vs ds) : ∀ (k : Nat) {v}, vs[k]? = some v → ∃ d, ds[k]? = some d ∧ IsV F v d :=
  q.ind (P := fun vs ds => ∀ (k : Nat) {v}, vs[k]? = some v → ∃ d, ds[k]? = some d ∧ IsV F v d) (fun _ _ e => nomatch e) fun a _ r k => Nat.casesOn k (fun e => ⟨_, rfl, Option.some.inj e ▸ a⟩) fun k e => r k e
theorem IsV.intI {F : Fz} {v : Value} {i : Int} (h : IsV F v (.int i)) : ∃ t, v = .int i t := by
  cases h; exact ⟨_, rfl⟩
theorem IsVs.ints {F : Fz} {vs} {ns : List Int} (q : IsVs F vs (ns.map .int)) : IntsAre vs ns :=
  q.ind (P := fun vs ds => ∀ ns : List Int, ns.map .int = ds → IntsAre vs ns) (fun ns e => List.map_eq_nil_iff.mp e ▸ .nil) (fun a _ r ns => List.casesOn ns (fun e => nomatch e) fun i ns e => by
    obtain ⟨t, rfl⟩ := ((List.cons.inj e).1 ▸ a : IsV F _ (.int i)).intI
    exact .cons i t (r ns (List.cons.inj e).2)) ns rfl
theorem IsVs.ofInts {F : Fz} {vs} {ns : List Int} (q : IntsAre vs ns) : IsVs F vs (ns.map .int) := by
  induction q with
  | nil => exact .nil
  | cons i t _ r => exact .cons (.int i t) r

noncomputable def IsCd (F : Fz) (c : Addr) (q : Str) : Prop := ∃ o vs t, F c = some o ∧ o.data = .fields vs ∧ vs[1]? = some (.str q t)
theorem IsCd.rec' {F : Fz} {h : Heap} {c : Addr} {q : Str} (x : IsCd F c q) (i : ∀ a o, F a = some o → h.get? a = some o) : h.CodeRec (.ref c) q := let ⟨o, vs, t, e, d, r⟩ := x; ⟨c, o, vs, t, rfl, i _ _ e, d, r⟩
theorem IsCd.mono {F F' : Fz} {c : Addr} {q : Str} (x : IsCd F c q) (k : ∀ b o, F b = some o → F' b = some o) : IsCd F' c q := let ⟨o, vs, t, e, r⟩ := x; ⟨o, vs, t, k _ _ e, r⟩
/- one code table: empty, or the one def of that function -/
noncomputable def TabOne (F : Fz) (h : Heap) (P : Addr) (line col : Nat) (q : Str) : Prop :=
  ∃ ps, h.get? P = some (tabObj ps) ∧ (ps = #[] ∨ ∃ c', ps = #[rawInt line, rawInt col, .ref c'] ∧ IsCd F c' q)

noncomputable def Tab (F : Fz) (h : Heap) : Prop := TabOne F h 30 32 4 "_int2digits.<locals>.inner" ∧ TabOne F h 37 47 4 "_digits2int.<locals>.inner"

/- a state of the run as the walk sees it: what is frozen, the heap -/
structure Wld (g : Heap) where
  F : Fz
  h : Heap
  inn : ∀ a o, F a = some o → h.get? a = some o
  base : ∀ a o, g.get? a = some o → F a = some o
  off : F 30 = none ∧ F 37 = none
  tab : Tab F h

structure Wld.Le {g : Heap} (W W' : Wld g) : Prop where
  fz : ∀ a o, W.F a = some o → W'.F a = some o
  keep : ∀ b o, b ≠ 30 → b ≠ 37 → W.h.get? b = some o → W'.h.get? b = some o
  new : ∀ a o, W'.F a = some o → W.F a = some o ∨ W.h.get? a = none

section
variable {g : Heap}
theorem Wld.old {W : Wld g} {a : Addr} {o : Obj} (e : g.get? a = some o) : W.h.get? a = some o := W.inn _ _ (W.base _ _ e)
theorem Wld.Le.refl (W : Wld g) : W.Le W := ⟨fun _ _ e => e, fun _ _ _ _ e => e, fun _ _ e => .inl e⟩
theorem Wld.Le.there {W W' : Wld g} (l : W.Le W') {a : Addr} {o : Obj} (e : W.h.get? a = some o) : ∃ o', W'.h.get? a = some o' := by
  by_cases h1 : a = 30
  · subst h1; obtain ⟨ps, e', _⟩ := W'.tab.1; exact ⟨_, e'⟩
  · by_cases h2 : a = 37
    · subst h2; obtain ⟨ps, e', _⟩ := W'.tab.2; exact ⟨_, e'⟩
    · exact ⟨o, l.keep a o h1 h2 e⟩
theorem Wld.Le.trans {W W' W'' : Wld g} (l : W.Le W') (m : W'.Le W'') : W.Le W'' :=
  ⟨fun a o e => m.fz a o (l.fz a o e), fun b o h1 h2 e => m.keep b o h1 h2 (l.keep b o h1 h2 e), fun a o e => by
    rcases m.new a o e with e | e
    · exact l.new a o e
    · right
      cases q : W.h.get? a with
      | none => rfl
      | some o' => obtain ⟨o₂, e₂⟩ := l.there q; rw [e] at e₂; cases e₂⟩

theorem tab_keeps {F F' : Fz} {h h' : Heap} (T : Tab F h) (k : ∀ b o, h.get? b = some o → h'.get? b = some o) (f : ∀ b o, F b = some o → F' b = some o) : Tab F' h' := by
  refine ⟨?_, ?_⟩
  · obtain ⟨ps, e, r⟩ := T.1
    exact ⟨ps, k _ _ e, r.imp id fun ⟨c', e', r⟩ => ⟨c', e', r.mono f⟩⟩
  · obtain ⟨ps, e, r⟩ := T.2
    exact ⟨ps, k _ _ e, r.imp id fun ⟨c', e', r⟩ => ⟨c', e', r.mono f⟩⟩

/- an object that is no code table -/
noncomputable def movable (o : Obj) : Prop := (∀ vs, o.data ≠ .fields vs) ∨ ∃ T, o.cls = .type T
/- an object that is neither a code table nor a code -/
noncomputable def loose (o : Obj) : Prop := (∀ vs, o.data ≠ .fields vs) ∨ ∃ T, o.cls = .type T ∧ T ≠ "code"
theorem loose.mv {o : Obj} (h : loose o) : movable o := h.imp id fun ⟨T, e, _⟩ => ⟨T, e⟩
theorem not_movable_tab {ps : Array Value} : ¬ movable (tabObj ps) := fun h => by
  rcases h with h | ⟨T, e⟩
  · exact h _ rfl
  · cases e
theorem tabOne_but {F : Fz} {h h' : Heap} {P : Addr} {l c : Nat} {q : Str} {a : Addr} {oa : Obj} (T : TabOne F h P l c q) (k : ∀ b o, b ≠ a → h.get? b = some o → h'.get? b = some o) (ha : h.get? a = some oa) (hm : loose oa) : TabOne F h' P l c q := by
  obtain ⟨ps, e, r⟩ := T
  have hP : P ≠ a := fun q => by subst q; rw [e] at ha; cases ha; exact not_movable_tab hm.mv
  exact ⟨ps, k _ _ hP e, r⟩
theorem tab_but {F : Fz} {h h' : Heap} {a : Addr} {oa : Obj} (T : Tab F h) (k : ∀ b o, b ≠ a → h.get? b = some o → h'.get? b = some o) (ha : h.get? a = some oa) (hm : loose oa) : Tab F h' :=
  ⟨tabOne_but T.1 k ha hm, tabOne_but T.2 k ha hm⟩

/- the heap grew, nothing else -/
noncomputable def Wld.grow (W : Wld g) (h' : Heap) (k : ∀ b o, W.h.get? b = some o → h'.get? b = some o) : Wld g :=
  { F := W.F, h := h', inn := fun a o e => k _ _ (W.inn a o e), base := W.base, off := W.off, tab := tab_keeps W.tab k fun _ _ e => e }
theorem Wld.grow_le (W : Wld g) (h' : Heap) (k : ∀ b o, W.h.get? b = some o → h'.get? b = some o) : W.Le (W.grow h' k) :=
  ⟨fun _ _ e => e, fun b o _ _ e => k b o e, fun _ _ e => .inl e⟩

/- an object that is not frozen was changed -/
noncomputable def Wld.set (W : Wld g) (a : Addr) {oa : Obj} (h' : Heap) (ha : W.h.get? a = some oa) (hm : loose oa) (hF : W.F a = none) (k : ∀ b o, b ≠ a → W.h.get? b = some o → h'.get? b = some o) : Wld g :=
  { F := W.F, h := h', inn := fun b o e => k _ _ (fun q => by subst q; rw [hF] at e; cases e) (W.inn b o e), base := W.base, off := W.off, tab := tab_but W.tab k ha hm }

/- an object is frozen -/
noncomputable def Wld.freeze (W : Wld g) (a : Addr) (o : Obj) (e : W.h.get? a = some o) (h1 : a ≠ 30) (h2 : a ≠ 37) (hF : W.F a = none) : Wld g :=
  { F := fun b => if b = a then some o else W.F b, h := W.h,
    inn := fun b p q => by
      by_cases hb : b = a
      · subst hb; simp at q; subst q; exact e
      · simp [hb] at q; exact W.inn b p q
    base := fun b p q => by
      have z := W.base b p q
      by_cases hb : b = a
      · subst hb; rw [hF] at z; cases z
      · simp [hb]; exact z
    off := ⟨by simp [Ne.symm h1, W.off.1], by simp [Ne.symm h2, W.off.2]⟩
    tab := tab_keeps W.tab (fun _ _ e => e) fun b p q => by
      by_cases hb : b = a
      · subst hb; rw [hF] at q; cases q
      · simp [hb]; exact q }
theorem Wld.freeze_fz {W : Wld g} {a : Addr} {o : Obj} {e : W.h.get? a = some o} {h1 : a ≠ 30} {h2 : a ≠ 37} {hF : W.F a = none} : ∀ b p, W.F b = some p → (W.freeze a o e h1 h2 hF).F b = some p := fun b p q => by
  show (if b = a then some o else W.F b) = some p
  by_cases hb : b = a
  · subst hb; rw [hF] at q; cases q
  · simp [hb]; exact q
theorem Wld.freeze_at {W : Wld g} {a : Addr} {o : Obj} {e : W.h.get? a = some o} {h1 : a ≠ 30} {h2 : a ≠ 37} {hF : W.F a = none} : (W.freeze a o e h1 h2 hF).F a = some o := by
  show (if a = a then some o else W.F a) = some o
  simp
/- freezing what was made behind W₀ -/
theorem Wld.Le.freeze {W₀ W : Wld g} (l : W₀.Le W) {a : Addr} {o : Obj} (e : W.h.get? a = some o) (h1 : a ≠ 30) (h2 : a ≠ 37) (hF : W.F a = none) (h0 : W₀.h.get? a = none) : W₀.Le (W.freeze a o e h1 h2 hF) :=
  ⟨fun b p q => Wld.freeze_fz b p (l.fz b p q), l.keep, fun b p q => by
    have q' : (if b = a then some o else W.F b) = some p := q
    by_cases hb : b = a
    · subst hb; exact .inr h0
    · simp [hb] at q'; exact l.new b p q'⟩
theorem Wld.not_tab {W : Wld g} {a : Addr} {o : Obj} (e : W.h.get? a = some o) (hm : movable o) : a ≠ 30 ∧ a ≠ 37 := by
  refine ⟨fun q => ?_, fun q => ?_⟩
  · subst q; obtain ⟨ps, e', _⟩ := W.tab.1; rw [e] at e'; cases e'; exact not_movable_tab hm
  · subst q; obtain ⟨ps, e', _⟩ := W.tab.2; rw [e] at e'; cases e'; exact not_movable_tab hm
theorem Wld.Le.mv {W W' : Wld g} (l : W.Le W') {a : Addr} {o : Obj} (e : W.h.get? a = some o) (hm : movable o) : W'.h.get? a = some o :=
  l.keep a o (W.not_tab e hm).1 (W.not_tab e hm).2 e
theorem Wld.F_none {W : Wld g} {a : Addr} (e : W.h.get? a = none) : W.F a = none := by
  cases q : W.F a with
  | none => rfl
  | some o => rw [W.inn _ _ q] at e; cases e
theorem Wld.new_none (W : Wld g) {n : Nat} (hn : W.h.objs.size ≤ n) : W.h.get? n = none := by
  cases q : W.h.get? n with
  | none => rfl
  | some o => exact absurd (Heap.lt_size q) (Nat.not_lt.mpr hn)
/- an unfrozen object of W₀ stays unfrozen -/
theorem Wld.Le.off' {W W' : Wld g} (l : W.Le W') {a : Addr} (hF : W.F a = none) {o : Obj} (e : W.h.get? a = some o) : W'.F a = none := by
  cases q : W'.F a with
  | none => rfl
  | some o' =>
    rcases l.new _ _ q with z | z
    · rw [hF] at z; cases z
    · rw [e] at z; cases z
end

/- the judgement: a tree that raises nothing, keeps what stood, and hands on a value -/
noncomputable def Ev {g : Heap} (prog : Program) (w : World) {α : Type} (A : Around) (t : Sem α) (W : Wld g) (P : Wld g → α → Prop) : Prop :=
  ∀ W' : Wld g, W.Le W' → ∀ s : Shared, s.heap = W'.h → ∀ (Q : α → Shared → Prop) (E : Value → Shared → Prop),
    (∀ W'' tk v, W'.Le W'' → P W'' v → Q v { s with heap := W''.h, toks := tk }) → wpAny (model prog w) A t Q E s

section
variable {g : Heap} {prog : Program} {w : World} {A : Around} {env : Env} {W : Wld g}

theorem Ev.mono {α : Type} {t : Sem α} {P P' : Wld g → α → Prop} (x : Ev prog w A t W P) (h : ∀ W' v, W.Le W' → P W' v → P' W' v) : Ev prog w A t W P' :=
  fun W' l s hs Q E k => x W' l s hs Q E fun W'' tk v l' p => k W'' tk v l' (h _ _ (l.trans l') p)
theorem Ev.up {α : Type} {W₁ : Wld g} {t : Sem α} {P : Wld g → α → Prop} (x : Ev prog w A t W P) (l : W.Le W₁) : Ev prog w A t W₁ P :=
  fun W' l' s hs Q E k => x W' (l.trans l') s hs Q E k
theorem Ev.bind {α β : Type} {t : Sem α} {f : α → Sem β} {P : Wld g → α → Prop} {P' : Wld g → β → Prop} (x : Ev prog w A t W P) (h : ∀ W' v, W.Le W' → P W' v → Ev prog w A (f v) W' P') : Ev prog w A (t >>= f) W P' := by
  intro W' l s hs Q E k
  refine wpAny_bind (x W' l s hs _ _ fun W'' tk v l' p => ?_)
  exact h W'' v (l.trans l') p W'' (.refl _) _ rfl Q E fun W₃ tk' v' l'' p' => k W₃ tk' v' (l'.trans l'') p'
theorem Ev.pure {α : Type} {a : α} {P : Wld g → α → Prop} (h : ∀ W', W.Le W' → P W' a) : Ev prog w A (pure a) W P := by
  intro W' l s hs Q E k
  have := k W' s.toks a (.refl _) (h _ l)
  rw [← hs] at this
  exact wpAny_pure this
/- a tree that changes nothing but the next token -/
theorem Ev.still {α : Type} {t : Sem α} {P : Wld g → α → Prop} (v : Shared → α) (h : ∀ (s : Shared) (Q : α → Shared → Prop) (E : Value → Shared → Prop), (∀ tk, Q (v s) { s with toks := tk }) → wpAny (model prog w) A t Q E s) (hp : ∀ W' s, W.Le W' → P W' (v s)) : Ev prog w A t W P := by
  intro W' l s hs Q E k
  refine h s Q E fun tk => ?_
  have := k W' tk (v s) (.refl _) (hp _ _ l)
  rw [← hs] at this
  exact this

abbrev V (x : PyData) : Wld g → Value → Prop := fun W v => IsV W.F v x
abbrev Ex (prog : Program) (w : World) (A : Around) (env : Env) (e : Expr) (W : Wld g) (P : Wld g → Value → Prop) : Prop := Ev prog w A (eval e env) W P

theorem IsV.le {W W' : Wld g} (l : W.Le W') {v x} (h : IsV W.F v x) : IsV W'.F v x := h.mono l.fz
theorem IsVs.le {W W' : Wld g} (l : W.Le W') {v x} (h : IsVs W.F v x) : IsVs W'.F v x := h.mono l.fz

/- names -/
noncomputable def Nm (h : Heap) (env : Env) (n : Str) (v : Value) : Prop :=
  (env.kindOf n = some .local ∧ ∃ m, h.Ns env.locals m ∧ m n = some v) ∨
  ((env.kindOf n = some .cell ∨ env.kindOf n = some .free) ∧ ∃ c, env.cells.lookup n = some c ∧ h.IsCell c (some v))
theorem Nm.le {W W' : Wld g} (l : W.Le W') {n v} (x : Nm W.h env n v) : Nm W'.h env n v := by
  rcases x with ⟨k, m, ⟨o, es, ep, e, d, r⟩, e'⟩ | ⟨k, c, e, o, e', d⟩
  · exact .inl ⟨k, m, ⟨o, es, ep, l.mv e (.inl fun vs q => by rw [d] at q; cases q), d, r⟩, e'⟩
  · exact .inr ⟨k, c, e, o, l.mv e' (.inl fun vs q => by rw [d] at q; cases q), d⟩
theorem wpAny_nm {s : Shared} {n : Str} {pos : Pos} {v : Value} {Q : Value → Shared → Prop} {E : Value → Shared → Prop} (hk : env.scope.kind = .function) (x : Nm s.heap env n v) (h : Q v s)
    (h1 : (n == ("__debug__" : Str)) = false) (h2 : (n == ("__classdict__" : Str)) = false) : wpAny (model prog w) A (eval (.Name n pos) env) Q E s := by
  refine wpAny_Name ?_ h1
  rcases x with ⟨k, m, hn, e⟩ | ⟨k | k, c, hc, hv⟩
  · exact wpAny_loadName_local hk k hn e h
  · exact wpAny_loadName_cell hk k hc hv h
  · exact wpAny_loadName_free hk k hc hv h h2
theorem ex_nm {n : Str} {pos : Pos} {v : Value} (hk : env.scope.kind = .function) (x : Nm W.h env n v) 
    (h1 : (n == ("__debug__" : Str)) = false) (h2 : (n == ("__classdict__" : Str)) = false) : Ex prog w A env (.Name n pos) W fun _ v' => v' = v := by
  intro W' l s hs Q E k
  have z := k W' s.toks v (.refl _) rfl
  rw [← hs] at z
  exact wpAny_nm hk (hs ▸ x.le l) z h1 h2
theorem ex_var {n : Str} {pos : Pos} {v : Value} {x : PyData} (hk : env.scope.kind = .function) (y : Nm W.h env n v) (i : IsV W.F v x)
    (h1 : (n == ("__debug__" : Str)) = false) (h2 : (n == ("__classdict__" : Str)) = false) : Ex prog w A env (.Name n pos) W (V x) :=
  (ex_nm hk y h1 h2).mono fun W' v' l e => by subst e; exact i.le l

/- ints -/
theorem ex_int {i : Int} {k : Nat} {pos : Pos} : Ex prog w A env (.Constant (.int i) k pos) W (V (.int i)) :=
  Ev.still (fun s => .int i s.toks) (fun s Q E h => wpAny_Constant_int (h _)) fun _ _ _ => .int _ _
theorem ex_none {k : Nat} {pos : Pos} : Ex prog w A env (.Constant .none k pos) W (V .none) :=
  Ev.still (fun _ => .none) (fun s Q E h => by exact fun _ _ _ => h s.toks) fun _ _ _ => .none
theorem ex_bool {b : Bool} {k : Nat} {pos : Pos} : Ex prog w A env (.Constant (.bool b) k pos) W (V (.bool b)) :=
  Ev.still (fun _ => .bool b) (fun s Q E h => by exact fun _ _ _ => h s.toks) fun _ _ _ => .bool b

theorem ex_binop {l r : Expr} {op : Operator} {pos : Pos} {P₁ P₂ P : Wld g → Value → Prop} (h1 : Ex prog w A env l W P₁) (h2 : Ex prog w A env r W P₂)
    (h : ∀ W₁ W₂ a b, W.Le W₁ → W₁.Le W₂ → P₁ W₁ a → P₂ W₂ b → Ev prog w A (binaryOp op a b) W₂ P) : Ex prog w A env (.BinOp l op r pos) W P := by
  intro W' lw s hs Q E k
  refine wpAny_BinOp (h1 W' lw s hs _ _ fun W₁ tk a l₁ p₁ => h2 W₁ (lw.trans l₁) _ rfl _ _ fun W₂ tk₂ b l₂ p₂ => ?_)
  exact h W₁ W₂ a b (lw.trans l₁) l₂ p₁ p₂ W₂ (.refl _) _ rfl Q E fun W₃ tk₃ v l₃ p₃ => k W₃ tk₃ v ((l₁.trans l₂).trans l₃) p₃
theorem ex_binop_int {l r : Expr} {op : Operator} {pos : Pos} {a b c : Int} (h1 : Ex prog w A env l W (V (.int a))) (h2 : Ex prog w A env r W (V (.int b)))
    (h : ∀ (t u : Tok) (s : Shared) (Q : Value → Shared → Prop) (E : Value → Shared → Prop), (s.heap.NoLimit) → Q (.int c s.toks) { s with toks := s.toks + 1 } → wpAny (model prog w) A (binaryOp op (.int a t) (.int b u)) Q E s) (hN : g.NoLimit) :
    Ex prog w A env (.BinOp l op r pos) W (V (.int c)) := by
  refine ex_binop h1 h2 fun W₁ W₂ a' b' l₁ l₂ p₁ p₂ => ?_
  cases p₁ with
  | int _ t =>
    cases p₂ with
    | int _ u =>
      intro W₃ l₃ s hs Q E k
      refine h t u s Q E (hN.keeps fun b o e => hs ▸ W₃.old e) ?_
      have := k W₃ (s.toks + 1) (.int c s.toks) (.refl _) (.int _ _)
      rw [← hs] at this
      exact this
end
end Mine
namespace Mine
section
variable {g : Heap} {prog : Program} {w : World} {A : Around} {env : Env} {W : Wld g}

theorem mv_list {o : Obj} {T : String} (h : o.cls = .type T) : movable o := .inr ⟨T, h⟩

/- a list, itself perhaps not frozen, of frozen data -/
noncomputable def SL (xs : List PyData) : Wld g → Value → Prop := fun W v => ∃ a vs, v = .ref a ∧ W.h.IsList a vs ∧ IsVs W.F vs.toList xs
theorem SL.le {W W' : Wld g} (l : W.Le W') {v xs} (h : SL xs W v) : SL xs W' v :=
  let ⟨a, vs, e, ⟨o, eo, ec, r⟩, q⟩ := h; ⟨a, vs, e, ⟨o, l.mv eo (mv_list ec), ec, r⟩, q.le l⟩
theorem IsV.sl {W : Wld g} {v xs} (h : IsV W.F v (.list xs)) : SL xs W v := by
  cases h with
  | list e c d r => exact ⟨_, _, rfl, ⟨_, W.inn _ _ e, c, _, d⟩, r⟩
theorem Ev.sl {t : Sem Value} {xs} (h : Ev prog w A t W (V (.list xs))) : Ev prog w A t W (SL xs) := h.mono fun _ _ _ p => p.sl
noncomputable def ST (xs : List PyData) : Wld g → Value → Prop := fun W v => ∃ a vs, v = .ref a ∧ IsTup W.h a vs ∧ IsVs W.F vs.toList xs
theorem ST.le {W W' : Wld g} (l : W.Le W') {v xs} (h : ST xs W v) : ST xs W' v :=
  let ⟨a, vs, e, ⟨o, eo, ec, r⟩, q⟩ := h; ⟨a, vs, e, ⟨o, l.mv eo (mv_list ec), ec, r⟩, q.le l⟩
theorem IsV.st {W : Wld g} {v xs} (h : IsV W.F v (.tuple xs)) : ST xs W v := by
  cases h with
  | tuple e c d r => exact ⟨_, _, rfl, ⟨_, W.inn _ _ e, c, _, d⟩, r⟩
/- readable data: frozen, or a list of frozen data -/
noncomputable def Sh (x : PyData) : Wld g → Value → Prop := fun W v => IsV W.F v x ∨ ∃ xs, x = .list xs ∧ SL xs W v
theorem Sh.le {W W' : Wld g} (l : W.Le W') {v x} (h : Sh x W v) : Sh x W' v := h.imp (·.le l) fun ⟨xs, e, q⟩ => ⟨xs, e, q.le l⟩
theorem Sh.reads {W : Wld g} {v x} (h : Sh x W v) : ∃ as, Reads W.h v x as := by
  rcases h with h | ⟨xs, rfl, a, vs, rfl, ⟨o, eo, ec, n, ed⟩, q⟩
  · exact h.reads W.inn
  · obtain ⟨as, r⟩ := q.reads W.inn
    exact ⟨_, .list eo ec ed r⟩
theorem Ev.sh {t : Sem Value} {x} (h : Ev prog w A t W (V x)) : Ev prog w A t W (Sh x) := h.mono fun _ _ _ p => .inl p
theorem Ev.shl {t : Sem Value} {xs} (h : Ev prog w A t W (SL xs)) : Ev prog w A t W (Sh (.list xs)) := h.mono fun _ _ _ p => .inr ⟨_, rfl, p⟩

/- a name that holds what it holds -/
theorem ex_val {n : Str} {pos : Pos} {v : Value} {P : Wld g → Value → Prop} (hk : env.scope.kind = .function) (y : Nm W.h env n v) (hp : ∀ W', W.Le W' → P W' v)
    (h1 : (n == ("__debug__" : Str)) = false) (h2 : (n == ("__classdict__" : Str)) = false) : Ex prog w A env (.Name n pos) W P :=
  (ex_nm hk y h1 h2).mono fun W' v' l e => by subst e; exact hp _ l

/- comparisons -/
noncomputable def pl : Nat → PyData → Bool
  | _, .int _ => true
  | n + 1, .list xs => xs.all (pl n)
  | n + 1, .tuple xs => xs.all (pl n)
  | _, _ => false
theorem pl_lay : ∀ (n : Nat) (d : PyData), pl n d = true → d.canLay0 = true ∧ d.depth ≤ n := by
  have all : ∀ (n : Nat), (∀ d, pl n d = true → d.canLay0 = true ∧ d.depth ≤ n) → ∀ ds : List PyData, (∀ d ∈ ds, pl n d = true) → PyData.canLayAll0 ds = true ∧ PyData.depthAll ds ≤ n := by
    intro n ih ds
    induction ds with
    | nil => intro _; simp [PyData.canLayAll0, PyData.depthAll]
    | cons d ds hi =>
      intro h
      have h1 := ih d (h d (.head _))
      have h2 := hi fun e he => h e (.tail _ he)
      simp only [PyData.canLayAll0, PyData.depthAll, h1.1, h2.1, Bool.and_self, true_and]
      have a1 := h1.2
      have a2 := h2.2
      lia
  intro n
  induction n with
  | zero => intro d h; cases d <;> simp_all [pl, PyData.canLay0, PyData.depth]
  | succ n ih =>
    intro d h
    cases d with
    | list ds =>
      have q := all n ih ds (by simpa [pl] using h)
      simp only [PyData.canLay0, PyData.depth, q.1, true_and]; lia
    | tuple ds =>
      have q := all n ih ds (by simpa [pl] using h)
      simp only [PyData.canLay0, PyData.depth, q.1, true_and]; lia
    | int i => simp [PyData.canLay0, PyData.depth]
    | _ => simp [pl] at h
theorem pl_shaped {n : Nat} {d : PyData} (h : pl n d = true) (hn : n ≤ 64) : SeqAt.shaped d = true := by
  have q := pl_lay n d h
  unfold SeqAt.shaped
  rw [q.1]
  simp
  have := q.2
  lia
theorem pl_eqv : ∀ (n : Nat) (d e : PyData) (k : Nat), pl n d = true → pl k e = true → (PyData.eqv d e = true ↔ d = e) := by
  have all : ∀ (n : Nat), (∀ d e k, pl n d = true → pl k e = true → (PyData.eqv d e = true ↔ d = e)) → ∀ (k : Nat) (ds es : List PyData), (∀ d ∈ ds, pl n d = true) → (∀ d ∈ es, pl k d = true) → (PyData.eqvAll ds es = true ↔ ds = es) := by
    intro n ih k ds
    induction ds with
    | nil => intro es _ _; cases es <;> simp [PyData.eqvAll]
    | cons d ds hi =>
      intro es h1 h2
      cases es with
      | nil => simp [PyData.eqvAll]
      | cons e es =>
        have q1 := ih d e k (h1 d (.head _)) (h2 e (.head _))
        have q2 := hi es (fun x hx => h1 x (.tail _ hx)) fun x hx => h2 x (.tail _ hx)
        simp only [PyData.eqvAll, Bool.and_eq_true, q1, q2, List.cons.injEq]
  intro n
  induction n with
  | zero => intro d e k h1 h2; cases d <;> cases e <;> cases k <;> simp_all [pl, PyData.eqv]
  | succ n ih =>
    intro d e k h1 h2
    cases d with
    | tuple ds =>
      cases e with
      | tuple es =>
        cases k with
        | zero => simp [pl] at h2
        | succ k =>
          simp only [PyData.eqv, PyData.tuple.injEq]
          exact all n ih k ds es (by simpa [pl] using h1) (by simpa [pl] using h2)
      | _ => cases k <;> simp_all [pl, PyData.eqv]
    | list ds =>
      cases e with
      | list es =>
        cases k with
        | zero => simp [pl] at h2
        | succ k =>
          simp only [PyData.eqv, PyData.list.injEq]
          exact all n ih k ds es (by simpa [pl] using h1) (by simpa [pl] using h2)
      | _ => cases k <;> simp_all [pl, PyData.eqv]
    | _ => cases e <;> cases k <;> simp_all [pl, PyData.eqv]

theorem ex_compare {l r : Expr} {op : CmpOp} {pos : Pos} {P₁ P₂ P : Wld g → Value → Prop} (h1 : Ex prog w A env l W P₁) (h2 : Ex prog w A env r W P₂)
    (h : ∀ W₁ W₂ a b, W.Le W₁ → W₁.Le W₂ → P₁ W₁ a → P₂ W₂ b → Ev prog w A (compareOp op a b) W₂ P)
    (hm : behindInMarks op r = false) : Ex prog w A env (.Compare l [op] [r] pos) W P := by
  intro W' lw s hs Q E k
  refine wpAny_Compare1 (h1 W' lw s hs _ _ fun W₁ tk a l₁ p₁ => h2 W₁ (lw.trans l₁) _ rfl _ _ fun W₂ tk₂ b l₂ p₂ => ?_) hm
  exact h W₁ W₂ a b (lw.trans l₁) l₂ p₁ p₂ W₂ (.refl _) _ rfl Q E fun W₃ tk₃ v l₃ p₃ => k W₃ tk₃ v ((l₁.trans l₂).trans l₃) p₃
theorem ev_cmp_int {op : CmpOp} {a b : Int} {t u : Tok} {c : Bool} (h : ∀ (s : Shared) (Q : Value → Shared → Prop) (E : Value → Shared → Prop), Q (.bool c) s → wpAny (model prog w) A (compareOp op (.int a t) (.int b u)) Q E s) :
    Ev prog w A (compareOp op (.int a t) (.int b u)) W (V (.bool c)) := by
  intro W' lw s hs Q E k
  have z := k W' s.toks (.bool c) (.refl _) (.bool c)
  rw [← hs] at z
  exact h s Q E z
theorem ex_cmp_int {l r : Expr} {op : CmpOp} {pos : Pos} {a b : Int} {c : Bool} (h1 : Ex prog w A env l W (V (.int a))) (h2 : Ex prog w A env r W (V (.int b)))
    (h : ∀ t u (s : Shared) (Q : Value → Shared → Prop) (E : Value → Shared → Prop), Q (.bool c) s → wpAny (model prog w) A (compareOp op (.int a t) (.int b u)) Q E s)
    (hm : behindInMarks op r = false) : Ex prog w A env (.Compare l [op] [r] pos) W (V (.bool c)) := by
  refine ex_compare h1 h2 (fun W₁ W₂ a' b' l₁ l₂ p₁ p₂ => ?_) hm
  cases p₁ with
  | int _ t => cases p₂ with
    | int _ u => exact ev_cmp_int (h t u)
theorem ev_eq {x y : PyData} {a b : Value} (ha : Sh x W a) (hb : Sh y W b) (sx : SeqAt.shaped x = true) (sy : SeqAt.shaped y = true) (hu : A.units + 64 < cLine) :
    Ev prog w A (compareOp .Eq a b) W (V (.bool (PyData.eqv x y))) := by
  intro W' lw s hs Q E k
  have z := k W' s.toks (.bool (PyData.eqv x y)) (.refl _) (.bool _)
  rw [← hs] at z
  obtain ⟨as, ra⟩ := (ha.le lw).reads
  obtain ⟨bs, rb⟩ := (hb.le lw).reads
  exact SeqAt.compareEq_shaped (hs ▸ ra) (hs ▸ rb) sx sy hu z
theorem ev_ne {x y : PyData} {a b : Value} (ha : Sh x W a) (hb : Sh y W b) (sx : SeqAt.shaped x = true) (sy : SeqAt.shaped y = true) (hu : A.units + 64 < cLine) :
    Ev prog w A (compareOp .NotEq a b) W (V (.bool (!PyData.eqv x y))) := by
  intro W' lw s hs Q E k
  have z := k W' s.toks (.bool (!PyData.eqv x y)) (.refl _) (.bool _)
  rw [← hs] at z
  obtain ⟨as, ra⟩ := (ha.le lw).reads
  obtain ⟨bs, rb⟩ := (hb.le lw).reads
  exact SeqAt.compareNe_shaped (hs ▸ ra) (hs ▸ rb) sx sy hu z
theorem ex_eq {l r : Expr} {pos : Pos} {x y : PyData} (h1 : Ex prog w A env l W (Sh x)) (h2 : Ex prog w A env r W (Sh y)) (sx : SeqAt.shaped x = true) (sy : SeqAt.shaped y = true) (hu : A.units + 64 < cLine)
    (hm : behindInMarks .Eq r = false) : Ex prog w A env (.Compare l [.Eq] [r] pos) W (V (.bool (PyData.eqv x y))) :=
  ex_compare h1 h2 (fun W₁ W₂ a b l₁ l₂ p₁ p₂ => ev_eq (p₁.le l₂) p₂ sx sy hu) hm
theorem ex_ne {l r : Expr} {pos : Pos} {x y : PyData} (h1 : Ex prog w A env l W (Sh x)) (h2 : Ex prog w A env r W (Sh y)) (sx : SeqAt.shaped x = true) (sy : SeqAt.shaped y = true) (hu : A.units + 64 < cLine)
    (hm : behindInMarks .NotEq r = false) : Ex prog w A env (.Compare l [.NotEq] [r] pos) W (V (.bool (!PyData.eqv x y))) :=
  ex_compare h1 h2 (fun W₁ W₂ a b l₁ l₂ p₁ p₂ => ev_ne (p₁.le l₂) p₂ sx sy hu) hm
theorem ex_notin {l r : Expr} {pos : Pos} {x : PyData} {ys : List PyData} (h1 : Ex prog w A env l W (Sh x)) (h2 : Ex prog w A env r W (Sh (.list ys))) (sx : SeqAt.shaped x = true) (sy : SeqAt.shaped (.list ys) = true) (hu : A.units + 128 < cLine)
    (hm : behindInMarks .NotIn r = false) : Ex prog w A env (.Compare l [.NotIn] [r] pos) W (V (.bool (!ys.any fun y => PyData.eqv y x))) := by
  refine ex_compare h1 h2 (fun W₁ W₂ a b l₁ l₂ p₁ p₂ => ?_) hm
  intro W' lw s hs Q E k
  have z := k W' s.toks (.bool (!ys.any fun y => PyData.eqv y x)) (.refl _) (.bool _)
  rw [← hs] at z
  obtain ⟨as, ra⟩ := ((p₁.le l₂).le lw).reads
  obtain ⟨bs, rb⟩ := (p₂.le lw).reads
  have c1 := SeqAt.canLay_of_shaped sx
  have c2 := SeqAt.canLay_of_shaped sy
  have d1 := SeqAt.depth_of_shaped sx
  refine SeqAt.notIn_list_reads (hs ▸ rb) (hs ▸ ra) (by simpa [PyData.canLay0] using c2) c1 ?_ z
  have : min (PyData.depthAll ys) x.depth ≤ x.depth := Nat.min_le_right _ _
  lia
noncomputable def isNone : PyData → Bool
  | .none => true
  | _ => false
/- e is None -/
theorem ex_isnone {l : Expr} {k : Nat} {p pos : Pos} {x : PyData} (h1 : Ex prog w A env l W (V x)) : Ex prog w A env (.Compare l [.Is] [.Constant .none k p] pos) W (V (.bool (isNone x))) := by
  refine ex_compare h1 ex_none (fun W₁ W₂ a b l₁ l₂ p₁ p₂ => ?_) (by rfl)
  cases p₂
  have e : (a == Value.none) = isNone x := by
    cases p₁ with
    | none => rfl
    | _ => exact beq_eq_false_iff_ne.mpr (by intro q; cases q)
  have e2 : (compareOp .Is a .none : Sem Value) = pure (.bool (isNone x)) := by
    show (do return .bool (← isSame a .none) : Sem Value) = _
    rw [isSame_none, e]
    rfl
  rw [e2]
  exact Ev.pure fun _ _ => .bool _

/- tests -/
abbrev Tst (prog : Program) (w : World) (A : Around) (env : Env) (c : Expr) (W : Wld g) (b : Bool) : Prop := Ev prog w A (isTrue c env (eval c env)) W fun _ b' => b' = b
theorem tst_compare {l r : Expr} {op : CmpOp} {pos : Pos} {P₁ P₂ : Wld g → Value → Prop} {c : Bool} (h1 : Ex prog w A env l W P₁) (h2 : Ex prog w A env r W P₂)
    (h : ∀ W₁ W₂ a b, W.Le W₁ → W₁.Le W₂ → P₁ W₁ a → P₂ W₂ b → Ev prog w A (compareOp op a b) W₂ (V (.bool c)))
    (hm : behindInMarks op r = false) : Tst prog w A env (.Compare l [op] [r] pos) W c := by
  intro W' lw s hs Q E k
  refine wpAny_isTrue_Compare1 (h1 W' lw s hs _ _ fun W₁ tk a l₁ p₁ => h2 W₁ (lw.trans l₁) _ rfl _ _ fun W₂ tk₂ b l₂ p₂ => ?_) hm
  refine h W₁ W₂ a b (lw.trans l₁) l₂ p₁ p₂ W₂ (.refl _) _ rfl _ E fun W₃ tk₃ v l₃ p₃ => ?_
  cases p₃
  exact wpAny_truthy_bool (k W₃ tk₃ c ((l₁.trans l₂).trans l₃) rfl)
theorem tst_cmp_int {l r : Expr} {op : CmpOp} {pos : Pos} {a b : Int} {c : Bool} (h1 : Ex prog w A env l W (V (.int a))) (h2 : Ex prog w A env r W (V (.int b)))
    (h : ∀ t u (s : Shared) (Q : Value → Shared → Prop) (E : Value → Shared → Prop), Q (.bool c) s → wpAny (model prog w) A (compareOp op (.int a t) (.int b u)) Q E s)
    (hm : behindInMarks op r = false) : Tst prog w A env (.Compare l [op] [r] pos) W c := by
  refine tst_compare h1 h2 (fun W₁ W₂ a' b' l₁ l₂ p₁ p₂ => ?_) hm
  cases p₁ with
  | int _ t => cases p₂ with
    | int _ u => exact ev_cmp_int (h t u)
theorem tst_eq {l r : Expr} {pos : Pos} {x y : PyData} (h1 : Ex prog w A env l W (Sh x)) (h2 : Ex prog w A env r W (Sh y)) (sx : SeqAt.shaped x = true) (sy : SeqAt.shaped y = true) (hu : A.units + 64 < cLine)
    (hm : behindInMarks .Eq r = false) : Tst prog w A env (.Compare l [.Eq] [r] pos) W (PyData.eqv x y) :=
  tst_compare h1 h2 (fun W₁ W₂ a b l₁ l₂ p₁ p₂ => ev_eq (p₁.le l₂) p₂ sx sy hu) hm
theorem tst_ne {l r : Expr} {pos : Pos} {x y : PyData} (h1 : Ex prog w A env l W (Sh x)) (h2 : Ex prog w A env r W (Sh y)) (sx : SeqAt.shaped x = true) (sy : SeqAt.shaped y = true) (hu : A.units + 64 < cLine)
    (hm : behindInMarks .NotEq r = false) : Tst prog w A env (.Compare l [.NotEq] [r] pos) W (!PyData.eqv x y) :=
  tst_compare h1 h2 (fun W₁ W₂ a b l₁ l₂ p₁ p₂ => ev_ne (p₁.le l₂) p₂ sx sy hu) hm
theorem tst_isnone {l : Expr} {k : Nat} {p pos : Pos} {x : PyData} (h1 : Ex prog w A env l W (V x)) : Tst prog w A env (.Compare l [.Is] [.Constant .none k p] pos) W (isNone x) := by
  refine tst_compare h1 ex_none (fun W₁ W₂ a b l₁ l₂ p₁ p₂ => ?_) (by rfl)
  cases p₂
  have e : (a == Value.none) = isNone x := by
    cases p₁ with
    | none => rfl
    | _ => exact beq_eq_false_iff_ne.mpr (by intro q; cases q)
  have e2 : (compareOp .Is a .none : Sem Value) = pure (.bool (isNone x)) := by
    show (do return .bool (← isSame a .none) : Sem Value) = _
    rw [isSame_none, e]
    rfl
  rw [e2]
  exact Ev.pure fun _ _ => .bool _
theorem tst_notin {l r : Expr} {pos : Pos} {x : PyData} {ys : List PyData} (h1 : Ex prog w A env l W (Sh x)) (h2 : Ex prog w A env r W (Sh (.list ys))) (sx : SeqAt.shaped x = true) (sy : SeqAt.shaped (.list ys) = true) (hu : A.units + 128 < cLine)
    (hm : behindInMarks .NotIn r = false) : Tst prog w A env (.Compare l [.NotIn] [r] pos) W (!ys.any fun y => PyData.eqv y x) := by
  refine tst_compare h1 h2 (fun W₁ W₂ a b l₁ l₂ p₁ p₂ => ?_) hm
  intro W' lw s hs Q E k
  have z := k W' s.toks (.bool (!ys.any fun y => PyData.eqv y x)) (.refl _) (.bool _)
  rw [← hs] at z
  obtain ⟨as, ra⟩ := ((p₁.le l₂).le lw).reads
  obtain ⟨bs, rb⟩ := (p₂.le lw).reads
  have c1 := SeqAt.canLay_of_shaped sx
  have c2 := SeqAt.canLay_of_shaped sy
  have d1 := SeqAt.depth_of_shaped sx
  refine SeqAt.notIn_list_reads (hs ▸ rb) (hs ▸ ra) (by simpa [PyData.canLay0] using c2) c1 ?_ z
  have : min (PyData.depthAll ys) x.depth ≤ x.depth := Nat.min_le_right _ _
  lia
/- or, and of tests: each is asked only where the earlier ones let it -/
theorem tst_or2 {x y : Expr} {rest : List Expr} {p : Pos} {b c : Bool} (h1 : Tst prog w A env x W b) (h2 : b = false → ∀ W', W.Le W' → Ev prog w A (allTrue .Or (y :: rest) env) W' fun _ b' => b' = c) :
    Tst prog w A env (.BoolOp .Or (x :: y :: rest) p) W (b || c) := by
  show Ev prog w A (allTrue .Or (x :: y :: rest) env) W _
  show Ev prog w A (do match BoolOp.Or, ← isTrue x env (eval x env) with
      | .And, false => pure false
      | .Or, true => pure true
      | _, _ => allTrue .Or (y :: rest) env) W _
  refine Ev.bind h1 fun W' b' l e => ?_
  subst e
  cases b' with
  | true => exact Ev.pure fun _ _ => rfl
  | false => exact h2 rfl W' l
theorem all_or_cons {x : Expr} {rest : List Expr} {b c : Bool} (h1 : Tst prog w A env x W b) (h2 : b = false → ∀ W', W.Le W' → Ev prog w A (allTrue .Or rest env) W' fun _ b' => b' = c) :
    Ev prog w A (allTrue .Or (x :: rest) env) W fun _ b' => b' = (b || c) := by
  show Ev prog w A (do match BoolOp.Or, ← isTrue x env (eval x env) with
      | .And, false => pure false
      | .Or, true => pure true
      | _, _ => allTrue .Or rest env) W _
  refine Ev.bind h1 fun W' b' l e => ?_
  subst e
  cases b' with
  | true => exact Ev.pure fun _ _ => rfl
  | false => exact h2 rfl W' l
theorem all_or_nil : Ev prog w A (allTrue .Or [] env) W fun _ b' => b' = false := Ev.pure fun _ _ => rfl
theorem all_and_cons {x : Expr} {rest : List Expr} {b c : Bool} (h1 : Tst prog w A env x W b) (h2 : b = true → ∀ W', W.Le W' → Ev prog w A (allTrue .And rest env) W' fun _ b' => b' = c) :
    Ev prog w A (allTrue .And (x :: rest) env) W fun _ b' => b' = (b && c) := by
  show Ev prog w A (do match BoolOp.And, ← isTrue x env (eval x env) with
      | .And, false => pure false
      | .Or, true => pure true
      | _, _ => allTrue .And rest env) W _
  refine Ev.bind h1 fun W' b' l e => ?_
  subst e
  cases b' with
  | false => exact Ev.pure fun _ _ => rfl
  | true => exact h2 rfl W' l
theorem all_and_nil : Ev prog w A (allTrue .And [] env) W fun _ b' => b' = true := Ev.pure fun _ _ => rfl

/- displays -/
inductive Exs (prog : Program) (w : World) (A : Around) (env : Env) (W : Wld g) : List Expr → List PyData → Prop
  | nil : Exs prog w A env W [] []
  | cons {e es x xs} : Ex prog w A env e W (V x) → Exs prog w A env W es xs → Exs prog w A env W (e :: es) (x :: xs)
theorem ev_spliced {es : List Expr} {xs : List PyData} (h : Exs prog w A env W es xs) : Ev prog w A (spliced (es.map fun e => (false, eval e env))) W fun W' vs => IsVs W'.F vs xs := by
  induction h with
  | nil => exact Ev.pure fun _ _ => .nil
  | cons h1 _ ih =>
    intro W' lw s hs Q E k
    refine spliced_cons (h1 W' lw s hs _ _ fun W₁ tk v l₁ p₁ => ih W₁ (lw.trans l₁) _ rfl _ _ fun W₂ tk₂ vs l₂ p₂ => ?_)
    exact k W₂ tk₂ _ (l₁.trans l₂) (.cons (p₁.le l₂) p₂)
theorem back_plain {pos : Pos} {env : Env} {es : List Expr} (hs : starEach es env = es.map fun e => (false, eval e env)) : backTo pos (starEach es env) = es.map fun e => (false, eval e env) := by
  rw [hs]
  unfold backTo
  rw [List.map_map]
  rfl

/- a new list that is not frozen -/
noncomputable def NewL (W₀ : Wld g) (xs : List PyData) : Wld g → Value → Prop := fun W v => ∃ D vs n, v = .ref D ∧ W.h.get? D = some { cls := .type "list", data := .seq vs n } ∧ W.F D = none ∧ IsVs W.F vs.toList xs ∧ W₀.h.get? D = none
/- a tree that makes a new list -/
noncomputable def EvN (prog : Program) (w : World) (A : Around) (t : Sem Value) (W : Wld g) (xs : List PyData) : Prop :=
  ∀ W' : Wld g, W.Le W' → ∀ s : Shared, s.heap = W'.h → ∀ (Q : Value → Shared → Prop) (E : Value → Shared → Prop),
    (∀ W'' tk v, W'.Le W'' → NewL W' xs W'' v → Q v { s with heap := W''.h, toks := tk }) → wpAny (model prog w) A t Q E s
theorem list_mv {vs : Array Value} {n : Nat} : movable ({ cls := .type "list", data := .seq vs n } : Obj) := .inr ⟨_, rfl⟩
theorem EvN.frz {t : Sem Value} {xs : List PyData} (h : EvN prog w A t W xs) : Ev prog w A t W (V (.list xs)) := by
  intro W' lw s hs Q E k
  refine h W' lw s hs Q E fun W'' tk v l p => ?_
  obtain ⟨D, vs, n, rfl, e, hF, q, h0⟩ := p
  have nt := W''.not_tab e list_mv
  exact k (W''.freeze D _ e nt.1 nt.2 hF) tk _ (l.freeze e nt.1 nt.2 hF h0) (.list Wld.freeze_at rfl rfl (q.mono Wld.freeze_fz))
theorem EvN.sl {t : Sem Value} {xs : List PyData} (h : EvN prog w A t W xs) : Ev prog w A t W (SL xs) := h.frz.sl
theorem EvN.up {W₁ : Wld g} {t : Sem Value} {xs : List PyData} (x : EvN prog w A t W xs) (l : W.Le W₁) : EvN prog w A t W₁ xs :=
  fun W' l' s hs Q E k => x W' (l.trans l') s hs Q E k
/- a fresh frozen object -/
theorem Wld.alloc_le {W : Wld g} {s : Shared} (hs : s.heap = W.h) (o : Obj) (hf : o.isFreed = false) (hm : movable o) :
    ∃ W' : Wld g, W'.h = s.heap.push o ∧ W.Le W' ∧ W'.F s.heap.objs.size = some o := by
  have kp : ∀ b p, W.h.get? b = some p → (s.heap.push o).get? b = some p := fun b p e => Heap.get?_push_of_some _ (by rw [hs]; exact e)
  let W₁ := W.grow (s.heap.push o) kp
  have e : W₁.h.get? s.heap.objs.size = some o := Heap.get?_push_size _ hf
  have h0 : W.h.get? s.heap.objs.size = none := W.new_none (by rw [hs]; exact Nat.le_refl _)
  have nt := W₁.not_tab e hm
  have hF : W₁.F s.heap.objs.size = none := Wld.F_none (W := W) h0
  exact ⟨W₁.freeze _ o e nt.1 nt.2 hF, rfl, (W.grow_le _ kp).freeze e nt.1 nt.2 hF h0, Wld.freeze_at⟩
theorem Wld.push_new {W : Wld g} {s : Shared} (hs : s.heap = W.h) (o : Obj) (hf : o.isFreed = false) :
    ∃ W' : Wld g, W'.h = s.heap.push o ∧ W.Le W' ∧ W'.F = W.F ∧ W'.h.get? s.heap.objs.size = some o ∧ W.h.get? s.heap.objs.size = none := by
  have kp : ∀ b p, W.h.get? b = some p → (s.heap.push o).get? b = some p := fun b p e => Heap.get?_push_of_some _ (by rw [hs]; exact e)
  exact ⟨W.grow (s.heap.push o) kp, rfl, W.grow_le _ kp, rfl, Heap.get?_push_size _ hf, W.new_none (by rw [hs]; exact Nat.le_refl _)⟩
theorem evn_newList {vs : List Value} {xs : List PyData} (q : IsVs W.F vs xs) (hsz : vs.length ≤ sizeLine) : EvN prog w A (newList vs) W xs := by
  intro W' lw s hs Q E k
  refine wpAny_newList ?_ hsz
  obtain ⟨W₁, e1, l1, eF, e2, h0⟩ := Wld.push_new hs { cls := .type "list", data := .seq vs.toArray } rfl
  have z := k W₁ s.toks (.ref s.heap.objs.size) l1 ⟨_, _, _, rfl, e2, by rw [eF]; exact Wld.F_none h0, by rw [eF]; simpa using q.le lw, h0⟩
  rw [e1] at z
  exact z
theorem ev_newTuple {vs : List Value} {xs : List PyData} (q : IsVs W.F vs xs) (hsz : vs.length ≤ sizeLine) : Ev prog w A (newTuple vs) W (V (.tuple xs)) := by
  intro W' lw s hs Q E k
  refine wpAny_newTuple ?_ hsz
  obtain ⟨W₁, e1, l1, eF⟩ := Wld.alloc_le hs { cls := .type "tuple", data := .seq vs.toArray } rfl (.inr ⟨_, rfl⟩)
  have z := k W₁ s.toks (.ref s.heap.objs.size) l1 (.tuple eF rfl rfl (by simpa using (q.le lw).le l1))
  rw [e1] at z
  exact z
theorem ex_list {elts : List Expr} {pos : Pos} {xs : List PyData} (h : Exs prog w A env W elts xs) (hs : starEach elts env = elts.map fun e => (false, eval e env)) (hsz : xs.length ≤ sizeLine) :
    EvN prog w A (eval (.List elts pos) env) W xs := by
  intro W' lw s hs' Q E k
  refine List_ ?_
  rw [back_plain hs]
  refine ev_spliced h W' lw s hs' _ _ fun W₁ tk vs l₁ q => ?_
  exact evn_newList (W := W₁) q (by rw [q.length]; exact hsz) W₁ (.refl _) _ rfl Q E fun W₂ tk₂ v l₂ ⟨D, us, n, e, e1, e2, e3, e4⟩ =>
    k W₂ tk₂ v (l₁.trans l₂) ⟨D, us, n, e, e1, e2, e3, by
      cases z : W'.h.get? D with
      | none => rfl
      | some o => obtain ⟨o', z'⟩ := l₁.there z; rw [e4] at z'; cases z'⟩
theorem ex_tuple {elts : List Expr} {n : Nat} {pos : Pos} {xs : List PyData} (h : Exs prog w A env W elts xs) (hs : starEach elts env = elts.map fun e => (false, eval e env)) (hsz : xs.length ≤ sizeLine) :
    Ex prog w A env (.Tuple elts n pos) W (V (.tuple xs)) := by
  intro W' lw s hs' Q E k
  refine Tuple_ ?_
  rw [back_plain hs]
  refine ev_spliced h W' lw s hs' _ _ fun W₁ tk vs l₁ q => ?_
  exact ev_newTuple (W := W₁) q (by rw [q.length]; exact hsz) W₁ (.refl _) _ rfl Q E fun W₂ tk₂ v l₂ p => k W₂ tk₂ v (l₁.trans l₂) p
end
end Mine
namespace Mine

/- an iterator at work -/
structure Itr (prog : Program) (w : World) (A : Around) (I : Addr) (fp : List Addr) (n : Nat) (P : Nat → Value → Prop) (St : Nat → Heap → Prop) : Prop where
  wk : Walks prog w A I fp [I] n P St
  ob : ∀ i h, St i h → ∃ o, h.get? I = some o ∧ loose o ∧ ∃ vs, o.data = .fields vs
  fm : ∀ i h, St i h → ∀ b ∈ fp, ∃ o, h.get? b = some o ∧ movable o

section
variable {g : Heap} {prog : Program} {w : World} {A : Around} {env : Env} {W : Wld g}

theorem Itr.le {I : Addr} {fp : List Addr} {n : Nat} {P : Nat → Value → Prop} {St : Nat → Heap → Prop} (J : Itr prog w A I fp n P St) {W W' : Wld g} (l : W.Le W') {i : Nat} (st : St i W.h) : St i W'.h := by
  refine J.wk.frame i _ _ st fun b hb o e => ?_
  obtain ⟨o', e', m⟩ := J.fm i _ st b hb
  rw [e] at e'; cases e'
  exact l.mv e m

/- what an iterable hands on: items that are the data xs -/
noncomputable def Src (prog : Program) (w : World) (A : Around) (xs : List PyData) : Wld g → Value → Prop := fun W xv =>
  ∀ (s : Shared) (Q : Value → Shared → Prop) (E : Value → Shared → Prop), s.heap = W.h →
    (∀ I fp P St h', Itr prog w A I fp xs.length P St → (∀ i v, P i v → ∃ x, xs[i]? = some x ∧ IsV W.F v x) → St 0 h' → (∀ b o, s.heap.get? b = some o → h'.get? b = some o) → s.heap.get? I = none → Q (.ref I) { s with heap := h' }) →
    wpAny (model prog w) A (pyIter xv) Q E s

theorem src_list (hh : A.handled = none) {xs : List PyData} {xv : Value} (h : SL xs W xv) : Src prog w A xs W xv := by
  obtain ⟨a, vs, rfl, hl, q⟩ := h
  intro s Q E hs k
  have hl' : s.heap.IsList a vs := by rw [hs]; exact hl
  have hlt : a < s.heap.objs.size := by obtain ⟨_, e, _⟩ := hl'; exact Heap.lt_size e
  refine wpAny_pyIter_list hl' ?_
  have len : vs.size = xs.length := by have := q.length; simpa using this
  have Wk := Walks.list (prog := prog) (w := w) hh s.heap.objs.size a (Nat.ne_of_lt hlt) vs
  rw [len] at Wk
  refine k s.heap.objs.size [s.heap.objs.size, a] _ _ _ ⟨Wk, ?_, ?_⟩ ?_ ⟨⟨_, Heap.get?_push_size _ rfl, rfl, rfl⟩, hl'.push _⟩ (fun b o e => Heap.get?_push_of_some _ e) ?_
  · rintro i h ⟨⟨o, e, c, d⟩, _⟩
    exact ⟨o, e, .inr ⟨_, c, by decide⟩, _, d⟩
  · rintro i h ⟨⟨o, e, c, _⟩, ⟨o', e', c', _⟩⟩ b hb
    rcases List.mem_cons.mp hb with rfl | hb
    · exact ⟨o, e, .inr ⟨_, c⟩⟩
    · rw [List.mem_singleton.mp hb]; exact ⟨o', e', .inr ⟨_, c'⟩⟩
  · intro i v hv
    exact q.get' i (by simpa using hv)
  · rw [hs]; exact W.new_none (Nat.le_refl _)
theorem src_tuple (hh : A.handled = none) {xs : List PyData} {xv : Value} (h : ST xs W xv) : Src prog w A xs W xv := by
  obtain ⟨a, vs, rfl, hl, q⟩ := h
  intro s Q E hs k
  have hl' : s.heap.IsTuple a vs := by rw [hs]; exact hl
  have hlt : a < s.heap.objs.size := by obtain ⟨_, e, _⟩ := hl'; exact Heap.lt_size e
  refine wpAny_pyIter_tuple hl' ?_
  have len : vs.size = xs.length := by have := q.length; simpa using this
  have Wk := Walks.tuple (prog := prog) (w := w) hh s.heap.objs.size a (Nat.ne_of_lt hlt) vs
  rw [len] at Wk
  refine k s.heap.objs.size [s.heap.objs.size, a] _ _ _ ⟨Wk, ?_, ?_⟩ ?_ ⟨⟨_, Heap.get?_push_size _ rfl, rfl, rfl⟩, hl'.push _⟩ (fun b o e => Heap.get?_push_of_some _ e) ?_
  · rintro i h ⟨⟨o, e, c, d⟩, _⟩
    exact ⟨o, e, .inr ⟨_, c, by decide⟩, _, d⟩
  · rintro i h ⟨⟨o, e, c, _⟩, ⟨o', e', c', _⟩⟩ b hb
    rcases List.mem_cons.mp hb with rfl | hb
    · exact ⟨o, e, .inr ⟨_, c⟩⟩
    · rw [List.mem_singleton.mp hb]; exact ⟨o', e', .inr ⟨_, c'⟩⟩
  · intro i v hv
    exact q.get' i (by simpa using hv)
  · rw [hs]; exact W.new_none (Nat.le_refl _)

noncomputable def rng (a : Int) (n : Nat) : List PyData := (List.range n).map fun (i : Nat) => PyData.int (a + (i : Int))
theorem rng_len (a : Int) (n : Nat) : (rng a n).length = n := by simp [rng]
noncomputable def Rg (a b : Int) : Wld g → Value → Prop := fun W xv => ∃ r t u v, xv = .ref r ∧ IsRange W.h r a b 1 t u v
theorem Rg.le {W W' : Wld g} (l : W.Le W') {v a b} (h : Rg a b W v) : Rg a b W' v := by
  obtain ⟨r, t, u, v, e, q⟩ := h
  exact ⟨r, t, u, v, e, l.mv (o := { cls := .type "range", data := .fields #[.int a t, .int b u, .int 1 v] }) q (.inr ⟨_, rfl⟩)⟩
theorem src_range (hh : A.handled = none) {a b : Int} {n : Nat} {xv : Value} (h : Rg a b W xv) (hsm : Builtin.Range.small a b 1 = true) (hn : Builtin.Range.rangeSize a b 1 = (n : Int)) : Src prog w A (rng a n) W xv := by
  obtain ⟨r, t, u, v, rfl, q⟩ := h
  intro s Q E hs k
  refine wpAny_pyIter_range (s := s) (by rw [hs]; exact q) hsm ?_
  have Wk := (Walks.range (prog := prog) (w := w) hh s.heap.objs.size a 1 n).bound
  rw [rng_len] at k
  have J : Itr prog w A s.heap.objs.size [s.heap.objs.size] n _ _ := ⟨Wk, fun i h st => ⟨_, st, .inr ⟨_, rfl, by decide⟩, _, rfl⟩, fun i h st b hb => by
    rw [List.mem_singleton.mp hb]
    exact ⟨_, st, .inr ⟨_, rfl⟩⟩⟩
  refine k _ _ _ _ _ J ?_ (by show IsRangeIter _ _ _ _ _; rw [hn]; simpa using Heap.get?_push_size _ rfl) (fun b o e => Heap.get?_push_of_some _ e) ?_
  · rintro i v ⟨hi, t, rfl⟩
    refine ⟨.int (a + i), ?_, by rw [Int.mul_one]; exact .int _ _⟩
    unfold rng
    rw [List.getElem?_map, List.getElem?_range hi]
    rfl
  · rw [hs]; exact W.new_none (Nat.le_refl _)

/- a range, its iterator's footprint told -/
theorem iter_range (hh : A.handled = none) {a b : Int} {n : Nat} {xv : Value} (h : Rg a b W xv) (hsm : Builtin.Range.small a b 1 = true) (hn : Builtin.Range.rangeSize a b 1 = (n : Int)) {s : Shared} (hs : s.heap = W.h) {Q : Value → Shared → Prop} {E : Value → Shared → Prop}
    (k : ∀ I P St h', Itr prog w A I [I] n P St → (∀ i v, P i v → ∃ x, (rng a n)[i]? = some x ∧ ∀ F, IsV F v x) → St 0 h' → (∀ b o, s.heap.get? b = some o → h'.get? b = some o) → s.heap.get? I = none → Q (.ref I) { s with heap := h' }) :
    wpAny (model prog w) A (pyIter xv) Q E s := by
  obtain ⟨r, t, u, v, rfl, q⟩ := h
  refine wpAny_pyIter_range (s := s) (by rw [hs]; exact q) hsm ?_
  have Wk := (Walks.range (prog := prog) (w := w) hh s.heap.objs.size a 1 n).bound
  have J : Itr prog w A s.heap.objs.size [s.heap.objs.size] n _ _ := ⟨Wk, fun i h st => ⟨_, st, .inr ⟨_, rfl, by decide⟩, _, rfl⟩, fun i h st b hb => by
    rw [List.mem_singleton.mp hb]
    exact ⟨_, st, .inr ⟨_, rfl⟩⟩⟩
  refine k _ _ _ _ J ?_ (by show IsRangeIter _ _ _ _ _; rw [hn]; simpa using Heap.get?_push_size _ rfl) (fun b o e => Heap.get?_push_of_some _ e) ?_
  · rintro i v ⟨hi, t, rfl⟩
    refine ⟨.int (a + i), ?_, fun F => by rw [Int.mul_one]; exact .int _ _⟩
    unfold rng
    rw [List.getElem?_map, List.getElem?_range hi]
    rfl
  · rw [hs]; exact W.new_none (Nat.le_refl _)
/- one step of an iterator, in worlds -/
theorem Itr.next {I : Addr} {fp : List Addr} {n : Nat} {P : Nat → Value → Prop} {St : Nat → Heap → Prop} (J : Itr prog w A I fp n P St) {i : Nat} (hi : i < n) {s : Shared} (hs : s.heap = W.h) (st : St i W.h) (hF : W.F I = none)
    {Q : Option Value → Shared → Prop} {E : Value → Shared → Prop}
    (k : ∀ (W' : Wld g) v tk, P i v → St (i + 1) W'.h → W'.F = W.F → (∀ b o, b ≠ I → W.h.get? b = some o → W'.h.get? b = some o) → Q (some v) { s with heap := W'.h, toks := tk }) :
    wpAny (model prog w) A (pyNext (.ref I)) Q E s := by
  refine J.wk.item i s Q E hi (by rw [hs]; exact st) fun v h' tk hP st' kp => ?_
  obtain ⟨o, e, lo, _⟩ := J.ob i _ st
  have kp' : ∀ b p, b ≠ I → W.h.get? b = some p → h'.get? b = some p := fun b p hb e => kp b p (by simpa using hb) (by rw [hs]; exact e)
  exact k (W.set I h' e lo hF kp') v tk hP st' rfl kp'
theorem Itr.stop {I : Addr} {fp : List Addr} {n : Nat} {P : Nat → Value → Prop} {St : Nat → Heap → Prop} (J : Itr prog w A I fp n P St) {s : Shared} (hs : s.heap = W.h) (st : St n W.h) (hF : W.F I = none)
    {Q : Option Value → Shared → Prop} {E : Value → Shared → Prop}
    (k : ∀ (W' : Wld g) tk, W'.F = W.F → (∀ b o, b ≠ I → W.h.get? b = some o → W'.h.get? b = some o) → Q none { s with heap := W'.h, toks := tk }) :
    wpAny (model prog w) A (pyNext (.ref I)) Q E s := by
  refine J.wk.done s Q E (by rw [hs]; exact st) fun h' tk kp => ?_
  obtain ⟨o, e, lo, _⟩ := J.ob n _ st
  have kp' : ∀ b p, b ≠ I → W.h.get? b = some p → h'.get? b = some p := fun b p hb e => kp b p (by simpa using hb) (by rw [hs]; exact e)
  exact k (W.set I h' e lo hF kp') tk rfl kp'
/- a change at an address that W₀ does not bear keeps W₀ ≤ W -/
theorem Wld.Le.but {W₀ W W' : Wld g} (l : W₀.Le W) {a : Addr} (h0 : W₀.h.get? a = none) (hF : W'.F = W.F) (k : ∀ b o, b ≠ a → W.h.get? b = some o → W'.h.get? b = some o) : W₀.Le W' :=
  ⟨fun b o e => hF ▸ l.fz b o e, fun b o h1 h2 e => k b o (fun q => by subst q; rw [h0] at e; cases e) (l.keep b o h1 h2 e), fun b o e => l.new b o (hF ▸ e)⟩

/- the tests of a clause -/
noncomputable def tests (ifs : List Expr) (env : Env) : Sem Bool :=
  forIn ifs true fun c r => if r = true then do let ok ← isTrue c env (eval c env); pure (ForInStep.yield ok) else pure (ForInStep.yield r)
abbrev Tsts (prog : Program) (w : World) (A : Around) (env : Env) (ifs : List Expr) (W : Wld g) (b : Bool) : Prop := Ev prog w A (tests ifs env) W fun _ b' => b' = b
theorem tsts_nil : Tsts prog w A env [] W true := Ev.pure fun _ _ => rfl
theorem tsts_one {c : Expr} {b : Bool} (h : Tst prog w A env c W b) : Tsts prog w A env [c] W b := by
  intro W' lw s hs Q E k
  unfold tests
  simp only [List.forIn_cons, List.forIn_nil, if_true]
  refine wpAny_bind (wpAny_bind (h W' lw s hs _ _ fun W'' tk v l e => wpAny_pure (wpAny_pure ?_)))
  exact k W'' tk v l e
end

/- the frame of a comprehension at work: its own locals and cells, the list that it makes -/
structure CI {g : Heap} (W₀ W : Wld g) (cenv : Env) (own : List Addr) (D : Addr) (m : Str → Option Value) (cm : Addr → Option Value) (ys : List PyData) : Prop where
  le : W₀.Le W
  acc : ∃ vs n, W.h.get? D = some { cls := .type "list", data := .seq vs n } ∧ IsVs W.F vs.toList ys
  accF : W.F D = none
  acc0 : W₀.h.get? D = none
  loc : W.h.Ns cenv.locals m
  locF : W.F cenv.locals = none
  loc0 : W₀.h.get? cenv.locals = none
  cl : ∀ c ∈ own, W.h.IsCell c (cm c) ∧ W.F c = none ∧ W₀.h.get? c = none

section
variable {g : Heap} {prog : Program} {w : World} {A : Around} {W₀ W W' : Wld g} {cenv : Env} {own : List Addr} {D : Addr} {m : Str → Option Value} {cm : Addr → Option Value} {ys : List PyData}
theorem ns_obj {h : Heap} {a : Addr} {m : Str → Option Value} (x : h.Ns a m) : ∃ o, h.get? a = some o ∧ loose o := let ⟨o, es, ep, e, d, _⟩ := x; ⟨o, e, .inl fun vs q => by rw [d] at q; cases q⟩
theorem cell_obj {h : Heap} {a : Addr} {v : Option Value} (x : h.IsCell a v) : ∃ o, h.get? a = some o ∧ loose o := let ⟨o, e, d⟩ := x; ⟨o, e, .inl fun vs q => by rw [d] at q; cases q⟩
theorem CI.up (C : CI W₀ W cenv own D m cm ys) (l : W.Le W') : CI W₀ W' cenv own D m cm ys := by
  obtain ⟨vs, n, e, q⟩ := C.acc
  obtain ⟨oL, eL, loL⟩ := ns_obj C.loc
  refine ⟨C.le.trans l, ⟨vs, n, l.mv e list_mv, q.le l⟩, l.off' C.accF e, C.acc0, ?_, l.off' C.locF eL, C.loc0, ?_⟩
  · obtain ⟨o, es, ep, e, d, r⟩ := C.loc
    exact ⟨o, es, ep, l.mv e (.inl fun vs q => by rw [d] at q; cases q), d, r⟩
  · intro c hc
    obtain ⟨⟨o, e, d⟩, f, z⟩ := C.cl c hc
    exact ⟨⟨o, l.mv e (.inl fun vs q => by rw [d] at q; cases q), d⟩, l.off' f e, z⟩
/- something else was changed: an iterator -/
theorem CI.but (C : CI W₀ W cenv own D m cm ys) {I : Addr} {o : Obj} (eI : W.h.get? I = some o) (hI : ∃ vs, o.data = .fields vs) (h0 : W₀.h.get? I = none) (hF : W'.F = W.F) (k : ∀ b o, b ≠ I → W.h.get? b = some o → W'.h.get? b = some o) : CI W₀ W' cenv own D m cm ys := by
  obtain ⟨fv, hI⟩ := hI
  obtain ⟨vs, n, e, q⟩ := C.acc
  refine ⟨C.le.but h0 hF k, ⟨vs, n, k _ _ (fun q => by subst q; rw [e] at eI; cases eI; cases hI) e, hF ▸ q⟩, hF ▸ C.accF, C.acc0, ?_, hF ▸ C.locF, C.loc0, ?_⟩
  · obtain ⟨o, es, ep, e, d, r⟩ := C.loc
    exact ⟨o, es, ep, k _ _ (fun q => by subst q; rw [e] at eI; cases eI; rw [d] at hI; cases hI) e, d, r⟩
  · intro c hc
    obtain ⟨⟨o, e, d⟩, f, z⟩ := C.cl c hc
    exact ⟨⟨o, k _ _ (fun q => by subst q; rw [e] at eI; cases eI; rw [d] at hI; cases hI) e, d⟩, hF ▸ f, z⟩
/- a local is stored -/
theorem CI.store (C : CI W₀ W cenv own D m cm ys) {x : Str} {v : Value} {s : Shared} (hs : s.heap = W.h) {Q : Unit → Shared → Prop} {E : Value → Shared → Prop} {px : Pos}
    (hx : cenv.kindOf x = some .local) (hp : (cenv.scope.kind == .class || (cenv.scope.kind == .module && cenv.locals != cenv.globals)) = false)
    (k : ∀ (W' : Wld g) tk, CI W₀ W' cenv own D (fun y => if y = x then some v else m y) cm ys → W'.F = W.F → (∀ b o, b ≠ cenv.locals → W.h.get? b = some o → W'.h.get? b = some o) → Q () { s with heap := W'.h, toks := tk }) :
    wpAny (model prog w) A (assign (.Name x px) cenv v) Q E s := by
  refine wpAny_assign_Name (wpAny_storeName_local hx (by rw [hs]; exact C.loc) (fun h' hn hsb => ?_) hp)
  obtain ⟨oL, eL, loL⟩ := ns_obj C.loc
  have kp : ∀ b p, b ≠ cenv.locals → W.h.get? b = some p → h'.get? b = some p := fun b p hb e => hsb.extBut b p hb (by rw [hs]; exact e)
  refine k (W.set cenv.locals h' eL loL C.locF kp) (s.toks + 1) ?_ rfl kp
  obtain ⟨vs, n, e, q⟩ := C.acc
  obtain ⟨oL', es, ep, eL', dL, _⟩ := C.loc
  rw [eL] at eL'; cases eL'
  refine ⟨C.le.but C.loc0 rfl kp, ⟨vs, n, kp _ _ (fun q => by rw [q, eL] at e; cases e; cases dL) e, q⟩, C.accF, C.acc0, hn, C.locF, C.loc0, ?_⟩
  intro c hc
  obtain ⟨⟨o, e, d⟩, f, z⟩ := C.cl c hc
  exact ⟨⟨o, kp _ _ (fun q => by rw [q, eL] at e; cases e; rw [d] at dL; cases dL) e, d⟩, f, z⟩
/- a cell is stored -/
theorem CI.storeC (C : CI W₀ W cenv own D m cm ys) {x : Str} {v : Value} {c : Addr} {s : Shared} (hs : s.heap = W.h) {Q : Unit → Shared → Prop} {E : Value → Shared → Prop} {px : Pos}
    (hk : cenv.scope.kind = .function) (hx : cenv.kindOf x = some .cell) (hc : cenv.cells.lookup x = some c) (ho : c ∈ own)
    (k : ∀ (W' : Wld g) tk, CI W₀ W' cenv own D m (fun y => if y = c then some v else cm y) ys → W'.h.IsCell c (some v) → W'.F = W.F → (∀ b o, b ≠ c → W.h.get? b = some o → W'.h.get? b = some o) → Q () { s with heap := W'.h, toks := tk }) :
    wpAny (model prog w) A (assign (.Name x px) cenv v) Q E s := by
  obtain ⟨ic, fc, zc⟩ := C.cl c ho
  refine wpAny_assign_Name (wpAny_storeName_cell hk hx hc (by rw [hs]; exact ic) fun h' hv hsb => ?_)
  obtain ⟨oc, ec, loc⟩ := cell_obj ic
  have kp : ∀ b p, b ≠ c → W.h.get? b = some p → h'.get? b = some p := fun b p hb e => hsb.extBut b p hb (by rw [hs]; exact e)
  refine k (W.set c h' ec loc fc kp) s.toks ?_ hv rfl kp
  obtain ⟨vs, n, e, q⟩ := C.acc
  obtain ⟨oL, es, ep, eL, dL, rL⟩ := C.loc
  obtain ⟨oc', ec', dc⟩ := ic
  rw [ec] at ec'; cases ec'
  refine ⟨C.le.but zc rfl kp, ⟨vs, n, kp _ _ (fun q => by rw [q, ec] at e; cases e; cases dc) e, q⟩, C.accF, C.acc0, ⟨oL, es, ep, kp _ _ (fun q => by rw [q, ec] at eL; cases eL; rw [dc] at dL; cases dL) eL, dL, rL⟩, C.locF, C.loc0, ?_⟩
  intro c' hc'
  by_cases hn : c' = c
  · subst hn
    refine ⟨?_, fc, zc⟩
    show h'.IsCell c' (if c' = c' then some v else cm c')
    rw [if_pos rfl]; exact hv
  · obtain ⟨⟨o, e, d⟩, f, z⟩ := C.cl c' hc'
    refine ⟨?_, f, z⟩
    show h'.IsCell c' (if c' = c then some v else cm c')
    rw [if_neg hn]
    exact ⟨o, kp _ _ hn e, d⟩
/- an item is put onto the list -/
theorem CI.push (C : CI W₀ W cenv own D m cm ys) {v : Value} {y : PyData} (hv : IsV W.F v y) {s : Shared} (hs : s.heap = W.h) (hsz : ys.length ≤ sizeLine) {Q : Value → Shared → Prop} {E : Value → Shared → Prop}
    (k : ∀ (W' : Wld g) tk, CI W₀ W' cenv own D m cm (ys ++ [y]) → W'.F = W.F → (∀ b o, b ≠ D → W.h.get? b = some o → W'.h.get? b = some o) → Q .none { s with heap := W'.h, toks := tk }) :
    wpAny (model prog w) A (call (.builtin "list.append") [.ref D, v]) Q E s := by
  obtain ⟨vs, n, e, q⟩ := C.acc
  refine wpAny_list_append_plain (items := vs) ⟨n, by rw [hs]; exact e⟩ (fun h' hl hsb => ?_) (by have := q.length; simp at this; lia)
  have kp : ∀ b p, b ≠ D → W.h.get? b = some p → h'.get? b = some p := fun b p hb e => hsb.extBut b p hb (by rw [hs]; exact e)
  refine k (W.set D h' e (.inr ⟨_, rfl, by decide⟩) C.accF kp) s.toks ?_ rfl kp
  obtain ⟨n', el⟩ := hl
  obtain ⟨oL, es, ep, eL, dL, rL⟩ := C.loc
  refine ⟨C.le.but C.acc0 rfl kp, ⟨vs.push v, n', el, by show IsVs W.F _ _; simpa using q.append (.one hv)⟩, C.accF, C.acc0, ⟨oL, es, ep, kp _ _ (fun q => by rw [q, e] at eL; cases eL; cases dL) eL, dL, rL⟩, C.locF, C.loc0, ?_⟩
  intro c hc
  obtain ⟨⟨o, e', d⟩, f, z⟩ := C.cl c hc
  exact ⟨⟨o, kp _ _ (fun q => by rw [q, e] at e'; cases e'; cases d) e', d⟩, f, z⟩
end
end Mine
namespace Mine

theorem compTurn_last {elt target iter : Expr} {ifs : List Expr} {gens : List Comprehension} {scope : Scope} {pos : Pos} {it acc : Value} {env : Env} {d : Nat} (hd : gens[d]? = some ⟨target, iter, ifs, 0⟩) (hn : gens[d + 1]? = none) :
    compTurn (.ListComp elt gens scope pos) d it acc env = (do
      standAt iter.pos
      match ← pyNext it with
      | none => pure (.done .next)
      | some v =>
        letOwnedTupleGo target it v
        assign target env v
        let ok ← tests ifs env
        if ok then
          (do let _ ← call (.builtin "list.append") [acc, ← eval elt env])
        again (.compLoop (.ListComp elt gens scope pos) d it acc env)) := by
  unfold compTurn tests
  simp only [hd, hn]
  rfl
theorem compTurn_mid {elt target iter target' iter' : Expr} {ifs ifs' : List Expr} {gens : List Comprehension} {scope : Scope} {pos : Pos} {it acc : Value} {env : Env} {d : Nat} (hd : gens[d]? = some ⟨target, iter, ifs, 0⟩) (hn : gens[d + 1]? = some ⟨target', iter', ifs', 0⟩) :
    compTurn (.ListComp elt gens scope pos) d it acc env = (do
      standAt iter.pos
      match ← pyNext it with
      | none => pure (.done .next)
      | some v =>
        letOwnedTupleGo target it v
        assign target env v
        let ok ← tests ifs env
        if ok then
          let x ← eval iter' env
          standAt iter'.pos
          let x ← foldedSetIterable iter' env x
          let _ ← runOwn (.compStart (.ListComp elt gens scope pos) (d + 1) (← holding [x] (pyIter x)) acc env) env
        again (.compLoop (.ListComp elt gens scope pos) d it acc env)) := by
  unfold compTurn tests
  simp only [hd, hn]
  rfl

/- W grew to W', but for what stands at X -/
structure Mv {g : Heap} (X : List Addr) (W W' : Wld g) : Prop where
  fz : ∀ a o, W.F a = some o → W'.F a = some o
  kp : ∀ b o, W.h.get? b = some o → movable o → b ∉ X → W'.h.get? b = some o
  nw : ∀ a o, W'.F a = some o → W.F a = some o ∨ W.h.get? a = none
  th : ∀ b o, W.h.get? b = some o → ∃ o', W'.h.get? b = some o'
section
variable {g : Heap} {X : List Addr} {W W' W'' : Wld g}
theorem Mv.of_le (l : W.Le W') : Mv X W W' := ⟨l.fz, fun b o e m _ => l.mv e m, l.new, fun _ _ e => l.there e⟩
theorem Mv.refl : Mv X W W := .of_le (.refl W)
theorem Mv.trans (a : Mv X W W') (b : Mv X W' W'') : Mv X W W'' where
  fz := fun x o e => b.fz x o (a.fz x o e)
  kp := fun x o e m h => b.kp x o (a.kp x o e m h) m h
  nw := fun x o e => by
    rcases b.nw x o e with e | e
    · exact a.nw x o e
    · right
      cases q : W.h.get? x with
      | none => rfl
      | some o' => obtain ⟨o₂, e₂⟩ := a.th x o' q; rw [e] at e₂; cases e₂
  th := fun x o e => by obtain ⟨o', e'⟩ := a.th x o e; exact b.th x o' e'
theorem Mv.off (a : Mv X W W') {x : Addr} (hF : W.F x = none) {o : Obj} (e : W.h.get? x = some o) : W'.F x = none := by
  cases q : W'.F x with
  | none => rfl
  | some o' =>
    rcases a.nw _ _ q with z | z
    · rw [hF] at z; cases z
    · rw [e] at z; cases z
theorem Mv.one {x : Addr} (hF : W'.F = W.F) (k : ∀ b o, b ≠ x → W.h.get? b = some o → W'.h.get? b = some o) (hx : x ∈ X) (ht : ∃ o', W'.h.get? x = some o') : Mv X W W' :=
  ⟨fun a o e => hF ▸ e, fun b o e _ h => k b o (fun q => h (by rw [q]; exact hx)) e, fun a o e => .inl (hF ▸ e), fun b o e => by
    by_cases hb : b = x
    · subst hb; exact ht
    · exact ⟨o, k b o hb e⟩⟩
/- what was made in between does not count -/
theorem Mv.butNew (a : Mv X W W') {I : Addr} (hI : W.h.get? I = none) (hF : W''.F = W'.F) (k : ∀ b o, b ≠ I → W'.h.get? b = some o → W''.h.get? b = some o) : Mv X W W'' :=
  ⟨fun x o e => hF ▸ a.fz x o e, fun x o e m h => k x o (fun q => by subst q; rw [hI] at e; cases e) (a.kp x o e m h), fun x o e => a.nw x o (hF ▸ e), fun x o e => by
    obtain ⟨o', e'⟩ := a.th x o e
    exact ⟨o', k x o' (fun q => by subst q; rw [hI] at e; cases e) e'⟩⟩
end

noncomputable def Agree (vs : List Str) (m m' : Str → Option Value) : Prop := ∀ z, z ∉ vs → m' z = m z
theorem Agree.refl {vs m} : Agree vs m m := fun _ _ => rfl
theorem Agree.trans {vs m m' m''} (a : Agree vs m m') (b : Agree vs m' m'') : Agree vs m m'' := fun z h => (b z h).trans (a z h)
theorem Agree.store {vs : List Str} {m : Str → Option Value} {x : Str} {v : Option Value} (h : x ∈ vs) : Agree vs m (fun y => if y = x then v else m y) := fun z hz => by
  show (if z = x then v else m z) = m z
  rw [if_neg (fun q => hz (by rw [q]; exact h))]

section
variable {g : Heap} {prog : Program} {w : World} {A : Around} {W₀ W : Wld g} {cenv : Env} {own : List Addr} {D : Addr} {m : Str → Option Value} {cm : Addr → Option Value} {ys : List PyData} {R : Result → Shared → Prop}

/- how a loop variable is kept: as a local, or as a cell of the comprehension's own -/
inductive Var (cenv : Env) (own : List Addr) (vs : List Str) (x : Str) : Prop
  | loc : cenv.kindOf x = some .local → (cenv.scope.kind == .class || (cenv.scope.kind == .module && cenv.locals != cenv.globals)) = false → x ∈ vs → Var cenv own vs x
  | cel (c : Addr) : cenv.kindOf x = some .cell → cenv.cells.lookup x = some c → c ∈ own → Var cenv own vs x

theorem CI.assign (C : CI W₀ W cenv own D m cm ys) {vs : List Str} {x : Str} {v : Value} {s : Shared} (hs : s.heap = W.h) {Q : Unit → Shared → Prop} {E : Value → Shared → Prop} {px : Pos} (hk : cenv.scope.kind = .function) (V : Var cenv own vs x)
    (k : ∀ (W' : Wld g) m' cm' tk, CI W₀ W' cenv own D m' cm' ys → Agree vs m m' → Nm W'.h cenv x v → Mv (D :: cenv.locals :: own) W W' → W'.F = W.F → Q () { s with heap := W'.h, toks := tk }) :
    wpAny (model prog w) A (assign (.Name x px) cenv v) Q E s := by
  cases V with
  | loc hx hp hv =>
    refine C.store hs hx hp fun W' tk C' hF kp => ?_
    refine k W' _ cm tk C' (Agree.store hv) (.inl ⟨hx, _, C'.loc, by simp⟩) (Mv.one hF kp (.tail _ (.head _)) ?_) hF
    obtain ⟨o, e, _⟩ := ns_obj C'.loc
    exact ⟨o, e⟩
  | cel c hx hc ho =>
    refine C.storeC hs hk hx hc ho fun W' tk C' ic hF kp => ?_
    refine k W' m _ tk C' .refl (.inr ⟨.inl hx, c, hc, ic⟩) (Mv.one hF kp (.tail _ (.tail _ ho)) ?_) hF
    obtain ⟨o, e, _⟩ := cell_obj ic
    exact ⟨o, e⟩

/- what a turn hands on -/
noncomputable def TurnPost (W₀ W : Wld g) (cenv : Env) (own : List Addr) (D : Addr) (vs : List Str) (m : Str → Option Value) (s : Shared) (c : Code) (ys : List PyData) (fin : Fin) (s' : Shared) : Prop :=
  fin = .again c ∧ ∃ (W' : Wld g) (m' : Str → Option Value) (cm' : Addr → Option Value) (tk : Nat), s' = { s with heap := W'.h, toks := tk } ∧ CI W₀ W' cenv own D m' cm' ys ∧ Agree vs m m' ∧ Mv (D :: cenv.locals :: own) W W'

theorem loop_gen {Wb : Wld g} {e : Expr} {d : Nat} {I : Addr} {fp : List Addr} {P : Nat → Value → Prop} {St : Nat → Heap → Prop} {xs : List PyData} {vs : List Str} {x : Str} {px : Pos} {rest : Sem Fin} (out : PyData → List PyData) {s : Shared}
    (hden : ∀ s E, wpAny (model prog w) A (compTurn e d (.ref I) (.ref D) cenv) E (notedBy (model prog w) A cenv fun e s' => R (.error e) s') s → wpAny (model prog w) (A.under (.compLoop e d (.ref I) (.ref D) cenv)) ((model prog w).den (.compLoop e d (.ref I) (.ref D) cenv)) E (fun e s' => R (.error e) s') s)
    (hq : (Code.compLoop e d (.ref I) (.ref D) cenv).quiet = true) (pos' : Pos)
    (htree : compTurn e d (.ref I) (.ref D) cenv = (standAt pos' >>= fun _ => pyNext (.ref I) >>= fun r => match r with
      | none => pure (.done .next)
      | some v => letOwnedTupleGo (.Name x px) (.ref I) v >>= fun _ => assign (.Name x px) cenv v >>= fun _ => rest))
    (J : Itr prog w A I fp xs.length P St) (hP : ∀ i v, P i v → ∃ y, xs[i]? = some y ∧ ∀ W', W₀.Le W' → IsV W'.F v y) (hfp : ∀ b ∈ fp, b ∉ D :: cenv.locals :: own)
    (hk : cenv.scope.kind = .function) (Vx : Var cenv own vs x) (hs : s.heap = W.h) (C : CI W₀ W cenv own D m cm ys) (st : St 0 W.h) (hI : W.F I = none) (hI0 : W₀.h.get? I = none) (lb : Wb.Le W) (hIb : Wb.h.get? I = none)
    (turn : ∀ (i : Nat) y v ys' (W' : Wld g) m' cm' tk, xs[i]? = some y → IsV W'.F v y → CI W₀ W' cenv own D m' cm' ys' → Agree vs m m' → Nm W'.h cenv x v → ys' = ys ++ (xs.take i).flatMap out →
      wpAny (model prog w) A rest (TurnPost W₀ W' cenv own D vs m' { s with heap := W'.h, toks := tk } (.compLoop e d (.ref I) (.ref D) cenv) (ys' ++ out y)) (notedBy (model prog w) A cenv fun e s' => R (.error e) s') { s with heap := W'.h, toks := tk })
    (done : ∀ (W' : Wld g) m' cm' tk, CI W₀ W' cenv own D m' cm' (ys ++ xs.flatMap out) → Agree vs m m' → Mv (D :: cenv.locals :: own) Wb W' → R (.ok .next) { s with heap := W'.h, toks := tk }) :
    codeAny (model prog w) A (.compLoop e d (.ref I) (.ref D) cenv) R s := by
  refine codeAny_loop hq (fun k s' => ∃ (W' : Wld g) (i : Nat) (m' : Str → Option Value) (cm' : Addr → Option Value) (tk : Nat), s' = { s with heap := W'.h, toks := tk } ∧ i ≤ xs.length ∧ k = xs.length + 1 - i ∧
      CI W₀ W' cenv own D m' cm' (ys ++ (xs.take i).flatMap out) ∧ St i W'.h ∧ W'.F I = none ∧ Agree vs m m' ∧ Mv (D :: cenv.locals :: own) Wb W') ?_ (xs.length + 1)
    ⟨W, 0, m, cm, s.toks, by rw [← hs], Nat.zero_le _, rfl, by simpa using C, st, hI, .refl, .of_le lb⟩
  rintro k s' ⟨W', i, m', cm', tk, rfl, hi, rfl, C', st', hI', ag, mv⟩
  refine hden _ _ ?_
  rw [htree]
  refine wpAny_bind (wpAny_standAt (wpAny_bind ?_))
  obtain ⟨oI, eI, loI, fI⟩ := J.ob _ _ st'
  by_cases hlt : i < xs.length
  · refine J.next (W := W') hlt rfl st' hI' fun W₁ v tk₁ hPv st₁ hF₁ kp₁ => ?_
    obtain ⟨y, hy, hv⟩ := hP i v hPv
    refine wpAny_bind (wpAny_pure (wpAny_bind ?_))
    have C₁ := C'.but eI fI hI0 hF₁ kp₁
    have mv₁ := mv.butNew hIb hF₁ kp₁
    refine C₁.assign (s := { s with heap := W₁.h, toks := tk₁ }) rfl hk Vx fun W₂ m₂ cm₂ tk₂ C₂ ag₂ nm₂ mv₂ hF₂ => ?_
    refine wpAny_mono (turn i y v _ W₂ m₂ cm₂ tk₂ hy (hv W₂ C₂.le) C₂ (ag.trans ag₂) nm₂ rfl) (fun fin s₃ h₃ => ?_) fun _ _ h => h
    obtain ⟨rfl, W₃, m₃, cm₃, tk₃, rfl, C₃, ag₃, mv₃⟩ := h₃
    have mv₂₃ := mv₂.trans mv₃
    have st₃ : St (i + 1) W₃.h := J.wk.frame (i + 1) _ _ st₁ fun b hb o e => by
      obtain ⟨o', e', mo⟩ := J.fm _ _ st₁ b hb
      rw [e] at e'; cases e'
      exact mv₂₃.kp b o e mo (hfp b hb)
    obtain ⟨o₁, e₁, _⟩ := J.ob _ _ st₁
    refine ⟨rfl, xs.length + 1 - (i + 1), by omega, W₃, i + 1, m₃, cm₃, tk₃, rfl, hlt, rfl, ?_, st₃, mv₂₃.off (hF₁ ▸ hI') e₁, (ag.trans ag₂).trans ag₃, mv₁.trans mv₂₃⟩
    have e : xs.take (i + 1) = xs.take i ++ [y] := by simp [List.take_add_one, hy]
    rw [e, List.flatMap_append, ← List.append_assoc]
    simpa using C₃
  · have hin : i = xs.length := by lia
    subst hin
    refine J.stop (W := W') rfl st' hI' fun W₁ tk₁ hF₁ kp₁ => ?_
    refine wpAny_pure ?_
    have C₁ := C'.but eI fI hI0 hF₁ kp₁
    rw [List.take_length] at C₁
    exact done W₁ m' cm' tk₁ C₁ ag (mv.butNew hIb hF₁ kp₁)
end
end Mine
namespace Mine
section
variable {g : Heap} {prog : Program} {w : World} {A : Around} {W₀ W : Wld g} {cenv env : Env} {own : List Addr} {D : Addr} {m : Str → Option Value} {cm : Addr → Option Value} {ys : List PyData} {R : Result → Shared → Prop}
  {elt : Expr} {gens : List Comprehension} {scope : Scope} {pos : Pos}

theorem hden_list {d : Nat} {it acc : Value} (s : Shared) (Q : Fin → Shared → Prop) (h : wpAny (model prog w) A (compTurn (.ListComp elt gens scope pos) d it acc cenv) Q (notedBy (model prog w) A cenv fun e s' => R (.error e) s') s) :
    wpAny (model prog w) (A.under (.compLoop (.ListComp elt gens scope pos) d it acc cenv)) ((model prog w).den (.compLoop (.ListComp elt gens scope pos) d it acc cenv)) Q (fun e s' => R (.error e) s') s := by
  show wpAny _ A ((compTurn (.ListComp elt gens scope pos) d it acc cenv).onRaise (fun x => do noteFrame x cenv; theTreesLotGoes x)) _ _ s
  exact wpAny_noted h

theorem start_gen {d : Nat} {it acc : Value} {s : Shared} {cl : Comprehension} (hd : gens[d]? = some cl) (ha : cl.is_async = 0)
    (h0 : codeAny (model prog w) A (.compLoop (.ListComp elt gens scope pos) d it acc cenv) R s)
    (h : wpAny (model prog w) A (pyIter it) (fun it' s' => codeAny (model prog w) A (.compLoop (.ListComp elt gens scope pos) d it' acc cenv) R s')
      (notedBy (model prog w) A cenv fun x s' => R (.error x) s') s) :
    codeAny (model prog w) A (.compStart (.ListComp elt gens scope pos) d it acc cenv) R s := by
  refine codeAny_of_tree ?_
  show wpAny _ A ((compStart (.ListComp elt gens scope pos) d it acc cenv).onRaise (fun x => do noteFrame x cenv; standAt theWindowsPlace)) _ _ s
  refine wpAny_notedAt ?_
  unfold compStart
  simp only [clausesOf, hd, Option.elim]
  obtain ⟨t, i, f, a⟩ := cl
  have ha' : a = 0 := ha
  subst ha'
  rw [if_neg (by simp)]
  refine wpAny_bind (wpAny_askSetting (wpAny_ite ?_))
  split
  · first
      | exact wpAny_bind (wpAny_pure (wpAny_pure (And.intro rfl h0)))
      | exact wpAny_pure (And.intro rfl h0)
  · refine wpAny_bind (wpAny_rule ?_)
    exact wpAny_bind (wpAny_standAt (wpAny_bind (wpAny_mono h (fun it' s' h' => wpAny_pure (And.intro rfl h')) fun _ _ x => x)))

/- the last clause's turn -/
theorem turn_emit {ifs : List Expr} {vs : List Str} {c : Code} {b : Bool} {z : PyData} {s : Shared} {E : Value → Shared → Prop} (hs : s.heap = W.h)
    (C : CI W₀ W cenv own D m cm ys) (ht : Tsts prog w A cenv ifs W b) (he : b = true → Ex prog w A cenv elt W (V z)) (hsz : ys.length ≤ sizeLine) :
    wpAny (model prog w) A (do
        let ok ← tests ifs cenv
        if ok then
          (do let _ ← call (.builtin "list.append") [.ref D, ← eval elt cenv])
        again c) (TurnPost W₀ W cenv own D vs m s c (ys ++ if b then [z] else [])) E s := by
  refine wpAny_bind (ht W (.refl _) s hs _ _ fun W₁ tk b' l₁ e => ?_)
  subst e
  cases b' with
  | false =>
    exact wpAny_pure ⟨rfl, W₁, m, cm, tk, rfl, by simpa using C.up l₁, .refl, .of_le l₁⟩
  | true =>
    simp only [if_true]
    refine wpAny_bind (wpAny_bind ((he rfl) W₁ l₁ _ rfl _ _ fun W₂ tk₂ v l₂ p => wpAny_bind ?_))
    refine ((C.up l₁).up l₂).push p (s := { s with heap := W₂.h, toks := tk₂ }) rfl hsz fun W₃ tk₃ C₃ hF₃ kp₃ => ?_
    refine wpAny_pure (wpAny_pure ⟨rfl, W₃, m, cm, tk₃, rfl, C₃, .refl, ?_⟩)
    refine ((Mv.of_le l₁).trans (.of_le l₂)).trans (Mv.one hF₃ kp₃ (.head _) ?_)
    obtain ⟨vs, n, e, _⟩ := C₃.acc
    exact ⟨_, e⟩

/- what a comprehension stands in -/
noncomputable def cEnv (scope : Scope) (cl : List (Str × Addr)) (C : Addr) (env : Env) : Env :=
  { scope := relabel scope env, locals := C, globals := env.globals, cells := cellsFrom (C + 1) scope.names cl, qual := env.qual, func := none, code := env.code, frame := env.frame, builtins := env.builtins }

/- the comprehension's own frame: nothing of its own in cells, or its variable alone -/
inductive Own (scope : Scope) (C : Addr) : List Addr → Prop
  | nil (h : ∀ n acc, cellsFrom n scope.names acc = acc) (h' : ∀ h, pushCells h scope.names = h) : Own scope C []
  | one (x : Str) (h : ∀ n acc, cellsFrom n scope.names acc = (x, n) :: acc) (h' : ∀ h, pushCells h scope.names = h.push { cls := .type "cell", data := .cell none }) : Own scope C [C + 1]

theorem newEnv_comp {cl : List (Str × Addr)} {s : Shared} {Q : Env → Shared → Prop} {E : Value → Shared → Prop}
    (h : Q { newEnv scope s.heap.objs.size env.globals (cellsFrom (s.heap.objs.size + 1) scope.names cl) env.qual none .none (some env) builtinsNs with } { s with heap := pushCells (s.heap.push { cls := .type "dict", data := .dict #[] }) scope.names }) :
    wpAny (model prog w) A (newFunctionEnv scope env.globals cl [] env.qual none .none (some env)) Q E s := by
  simp only [newFunctionEnv, Option.isSome_some, if_true]
  refine wpAny_bind (wpAny_alloc ?_)
  refine wpAny_bind (wpAny_layCells _ (fun name kind cells => by cases hkc : kind == NameKind.cell <;> simp) _ _ _ _ ?_)
  rw [show ({ s with heap := s.heap.push { cls := .type "dict", data := .dict #[] } } : Shared).heap.objs.size = s.heap.objs.size + 1 from Heap.size_push ..]
  exact wpAny_bind (wpAny_pure (wpAny_pure h))


theorem Own.new {C : Addr} {own : List Addr} (o : Own scope C own) {h : Heap} (hC : h.objs.size = C) :
    (pushCells (h.push { cls := .type "dict", data := .dict #[] }) scope.names).Ns C (fun _ => none) ∧
    (∀ c ∈ own, (pushCells (h.push { cls := .type "dict", data := .dict #[] }) scope.names).IsCell c none ∧ C < c) := by
  refine ⟨?_, ?_⟩
  · subst hC
    exact (Heap.Ns.new h (.type "dict")).keeps (pushCells_keeps _ _)
  · intro c hc
    cases o with
    | nil => cases hc
    | one x h1 h2 =>
      rw [List.mem_singleton.mp hc, h2]
      refine ⟨⟨{ cls := .type "cell", data := .cell none }, ?_, rfl⟩, Nat.lt_succ_self _⟩
      have e : (h.push { cls := .type "dict", data := .dict #[] }).objs.size = C + 1 := by rw [Heap.size_push, hC]
      rw [← e]
      exact Heap.get?_push_size _ rfl

theorem comp_core {cl : List (Str × Addr)} {iter : Expr} {ifs : List Expr} {more : List Comprehension} {vs : List Str} {x : Str} {px : Pos} {xs : List PyData} (out : PyData → List PyData) (rest : Addr → Addr → Addr → Sem Fin)
    {use : Option (Value → Sem Unit)} {p' : Pos}
    (hg : gens = ⟨.Name x px, iter, ifs, 0⟩ :: more) (hfold : ∀ x, foldedSetIterable iter env x = pure x)
    (hclos : closureFor scope env = pure cl) (hkind : scope.kind = .function) (hnames : ∀ y ∈ scope.names, y.2 = .local → scope.names.lookup y.1 = some .local)
    (hown : ∀ C, ∃ own, Own scope C own ∧ Var (cEnv scope cl C env) own vs x)
    (hit : Ev prog w A (eval iter env) W (Src prog w A xs))
    (htree : ∀ I D C, compTurn (.ListComp elt gens scope pos) 0 (.ref I) (.ref D) (cEnv scope cl C env) = (standAt iter.pos >>= fun _ => pyNext (.ref I) >>= fun r => match r with
      | none => pure (.done .next)
      | some v => letOwnedTupleGo (.Name x px) (.ref I) v >>= fun _ => assign (.Name x px) (cEnv scope cl C env) v >>= fun _ => rest I D C))
    (turn : ∀ (W₀ W' : Wld g) (own : List Addr) (I D C : Addr) (i : Nat) y v ys m' cm' (s : Shared) (E : Value → Shared → Prop), W.Le W₀ → Own scope C own → xs[i]? = some y → ys = (xs.take i).flatMap out → IsV W'.F v y →
      CI W₀ W' (cEnv scope cl C env) own D m' cm' ys → Nm W'.h (cEnv scope cl C env) x v → s.heap = W'.h →
      wpAny (model prog w) A (rest I D C) (TurnPost W₀ W' (cEnv scope cl C env) own D vs m' s (.compLoop (.ListComp elt gens scope pos) 0 (.ref I) (.ref D) (cEnv scope cl C env)) (ys ++ out y)) E s)
    {W' : Wld g} (lw : W.Le W') {s : Shared} (hs : s.heap = W'.h) {Q : Value → Shared → Prop} {E : Value → Shared → Prop}
    (fin : ∀ (W₀ W₃ : Wld g) own D C m' cm' tk, W'.Le W₀ → CI W₀ W₃ (cEnv scope cl C env) own D m' cm' (xs.flatMap out) → compPost (model prog w) A E use Q (.ref D) C (.ok .next) { s with heap := W₃.h, toks := tk }) :
    wpAny (model prog w) A (comprehension (.ListComp elt gens scope pos) scope env p' (newList []) (firstAsync gens) (firstIter gens env) use) Q E s := by
  have hc1 : clausesOf (.ListComp elt gens scope pos) = ⟨.Name x px, iter, ifs, 0⟩ :: more := hg
  have hc2 : firstAsync gens = false := by rw [hg]; rfl
  have hc3 : firstIter gens env = eval iter env := by rw [hg]; rfl
  rw [hc2, hc3]
  refine wpAny_comprehension_free (use := use) hc1 hfold hclos hkind hnames (hit W' lw s hs _ _ fun W₀ tk xv l₀ src => ?_)
  refine src _ _ _ rfl fun I fp P St h' J hP st kp hI0 => ?_
  dsimp only at kp hI0 ⊢
  let W₁ := W₀.grow h' kp
  have l₁ : W₀.Le W₁ := W₀.grow_le h' kp
  refine wpAny_newList (items := []) ?_ (Nat.zero_le _)
  refine newEnv_comp ?_
  dsimp only
  have hC : (h'.push { cls := .type "list", data := .seq ([] : List Value).toArray }).objs.size = h'.objs.size + 1 := Heap.size_push ..
  generalize hH : h'.push { cls := .type "list", data := .seq ([] : List Value).toArray } = H₂ at hC ⊢
  obtain ⟨own, hOwn, hVar⟩ := hown H₂.objs.size
  obtain ⟨hns, hcells⟩ := hOwn.new (h := H₂) rfl
  have kp₂ : ∀ b o, h'.get? b = some o → (pushCells (H₂.push { cls := .type "dict", data := .dict #[] }) scope.names).get? b = some o :=
    fun b o e => pushCells_keeps _ _ b o (Heap.get?_push_of_some _ (hH ▸ Heap.get?_push_of_some _ e))
  generalize hH3 : pushCells (H₂.push { cls := .type "dict", data := .dict #[] }) scope.names = H₃ at hns hcells kp₂ ⊢
  let W₂ := W₁.grow H₃ kp₂
  have l₂ : W₁.Le W₂ := W₁.grow_le H₃ kp₂
  have out₁ : ∀ a, h'.objs.size ≤ a → W₁.h.get? a = none := fun a ha => W₁.new_none ha
  have out₀ : ∀ a, h'.objs.size ≤ a → W₀.h.get? a = none := fun a ha => by
    cases q : W₀.h.get? a with
    | none => rfl
    | some o => obtain ⟨o', e'⟩ := l₁.there q; rw [out₁ a ha] at e'; cases e'
  have hacc : H₃.get? h'.objs.size = some { cls := .type "list", data := .seq #[] } := by
    rw [← hH3]
    refine pushCells_keeps _ _ _ _ (Heap.get?_push_of_some _ ?_)
    rw [← hH]
    exact Heap.get?_push_size _ rfl
  have C₂ : CI W₀ W₂ (cEnv scope cl H₂.objs.size env) own h'.objs.size (fun _ => none) (fun _ => none) [] :=
    ⟨l₁.trans l₂, ⟨#[], 0, hacc, .nil⟩, Wld.F_none (W := W₁) (out₁ _ (Nat.le_refl _)), out₀ _ (Nat.le_refl _), hns, Wld.F_none (W := W₁) (out₁ _ (by rw [hC]; exact Nat.le_succ _)), out₀ _ (by rw [hC]; exact Nat.le_succ _), fun c hc => by
      obtain ⟨ic, lt⟩ := hcells c hc
      have hge : h'.objs.size ≤ c := by rw [hC] at lt; exact Nat.le_of_lt (Nat.lt_of_succ_lt lt)
      exact ⟨ic, Wld.F_none (W := W₁) (out₁ _ hge), out₀ _ hge⟩⟩
  have hIlt : I < h'.objs.size := by
    obtain ⟨o, e, _⟩ := J.ob _ _ st
    exact Heap.lt_size e
  have hlow : ∀ b, b < h'.objs.size → b ∉ h'.objs.size :: (cEnv scope cl H₂.objs.size env).locals :: own := by
    intro b hb hm
    rcases List.mem_cons.mp hm with rfl | hm
    · exact Nat.lt_irrefl _ hb
    · rcases List.mem_cons.mp hm with q | hm
      · have q' : b = H₂.objs.size := q
        rw [hC] at q'; lia
      · have := (hcells b hm).2
        rw [hC] at this; exact Nat.lt_irrefl _ (Nat.lt_trans hb (Nat.lt_of_succ_lt this))
  have st₂ : St 0 W₂.h := J.le (W := W₁) l₂ st
  have loop : ∀ s₃ : Shared, s₃.heap = W₂.h → s₃ = { s with heap := W₂.h, toks := tk } →
      codeAny (model prog w) A (.compLoop (.ListComp elt gens scope pos) 0 (.ref I) (.ref h'.objs.size) (cEnv scope cl H₂.objs.size env))
        (compPost (model prog w) A E use Q (.ref h'.objs.size) H₂.objs.size) s₃ := by
    intro s₃ hs₃ e₃
    refine loop_gen (W := W₂) (Wb := W₀) (W₀ := W₀) (vs := vs) out (fun s E h => hden_list s E h) rfl iter.pos (htree I h'.objs.size H₂.objs.size) J (fun i v hv => ?_) (fun b hb => ?_) hkind hVar hs₃ C₂ st₂
      (Wld.F_none (W := W₀) hI0) hI0 (l₁.trans l₂) hI0 (fun i y v ys' W₃ m' cm' tk₃ hy hv C₃ ag nm e => ?_) (fun W₃ m' cm' tk₃ C₃ ag mv => ?_)
    · obtain ⟨y, hy, iv⟩ := hP i v hv
      exact ⟨y, hy, fun W' l => iv.le l⟩
    · obtain ⟨o, e, _⟩ := J.fm _ _ st b hb
      exact hlow b (Heap.lt_size e)
    · have z := turn W₀ W₃ own I h'.objs.size H₂.objs.size i y v ys' m' cm' { s₃ with heap := W₃.h, toks := tk₃ } (notedBy (model prog w) A (cEnv scope cl H₂.objs.size env) fun e s' => compPost (model prog w) A E use Q (.ref h'.objs.size) H₂.objs.size (.error e) s') (lw.trans l₀) hOwn hy (by simpa using e) hv C₃ nm rfl
      exact z
    · have z := fin W₀ W₃ own h'.objs.size H₂.objs.size m' cm' tk₃ l₀ (by simpa using C₃)
      rw [e₃]
      exact z
  have hd0 : gens[0]? = some ⟨.Name x px, iter, ifs, 0⟩ := by rw [hg]; rfl
  exact start_gen hd0 rfl (loop _ rfl rfl) (J.wk.self 0 _ _ _ st₂ (loop _ rfl rfl))

theorem comp_gen {cl : List (Str × Addr)} {iter : Expr} {ifs : List Expr} {more : List Comprehension} {vs : List Str} {x : Str} {px : Pos} {xs : List PyData} (out : PyData → List PyData) (rest : Addr → Addr → Addr → Sem Fin)
    (hg : gens = ⟨.Name x px, iter, ifs, 0⟩ :: more) (hfold : ∀ x, foldedSetIterable iter env x = pure x)
    (hclos : closureFor scope env = pure cl) (hkind : scope.kind = .function) (hnames : ∀ y ∈ scope.names, y.2 = .local → scope.names.lookup y.1 = some .local)
    (hown : ∀ C, ∃ own, Own scope C own ∧ Var (cEnv scope cl C env) own vs x)
    (hit : Ev prog w A (eval iter env) W (Src prog w A xs))
    (htree : ∀ I D C, compTurn (.ListComp elt gens scope pos) 0 (.ref I) (.ref D) (cEnv scope cl C env) = (standAt iter.pos >>= fun _ => pyNext (.ref I) >>= fun r => match r with
      | none => pure (.done .next)
      | some v => letOwnedTupleGo (.Name x px) (.ref I) v >>= fun _ => assign (.Name x px) (cEnv scope cl C env) v >>= fun _ => rest I D C))
    (turn : ∀ (W₀ W' : Wld g) (own : List Addr) (I D C : Addr) (i : Nat) y v ys m' cm' (s : Shared) (E : Value → Shared → Prop), W.Le W₀ → Own scope C own → xs[i]? = some y → ys = (xs.take i).flatMap out → IsV W'.F v y →
      CI W₀ W' (cEnv scope cl C env) own D m' cm' ys → Nm W'.h (cEnv scope cl C env) x v → s.heap = W'.h →
      wpAny (model prog w) A (rest I D C) (TurnPost W₀ W' (cEnv scope cl C env) own D vs m' s (.compLoop (.ListComp elt gens scope pos) 0 (.ref I) (.ref D) (cEnv scope cl C env)) (ys ++ out y)) E s) :
    EvN prog w A (eval (.ListComp elt gens scope pos) env) W (xs.flatMap out) := by
  intro W' lw s hs Q E k
  rw [eval_ListComp]
  refine comp_core (use := none) out rest hg hfold hclos hkind hnames hown hit htree turn lw hs fun W₀ W₃ own D C m' cm' tk₃ l₀ C₃ => ?_
  refine ⟨m', C₃.loc, fun h'' hsb => ?_⟩
  obtain ⟨oL, eL, loL⟩ := ns_obj C₃.loc
  have kp₄ : ∀ b p, b ≠ C → W₃.h.get? b = some p → h''.get? b = some p := fun b p hb e => hsb.extBut b p hb e
  obtain ⟨vs', n, e, q⟩ := C₃.acc
  obtain ⟨oL', es, ep, eL', dL, _⟩ := C₃.loc
  have hDC : D ≠ C := fun q => by
    have eL2 : W₃.h.get? C = some oL' := eL'
    rw [← q, e] at eL2; cases eL2; cases dL
  exact k (W₃.set C h'' eL loL C₃.locF kp₄) tk₃ (.ref D) (l₀.trans (C₃.le.but C₃.loc0 rfl kp₄)) ⟨_, vs', n, rfl, kp₄ _ _ hDC e, C₃.accF, q, by
    cases q : W'.h.get? D with
    | none => rfl
    | some o => obtain ⟨o', e'⟩ := l₀.there q; rw [C₃.acc0] at e'; cases e'⟩
end
end Mine
namespace Mine
section
variable {g : Heap} {prog : Program} {w : World} {A : Around} {W₀ W : Wld g} {cenv env : Env} {own : List Addr} {D : Addr} {m : Str → Option Value} {cm : Addr → Option Value} {ys : List PyData} {R : Result → Shared → Prop}
  {elt : Expr} {gens : List Comprehension} {scope : Scope} {pos : Pos}

theorem flatMap_if (p : PyData → Bool) (f : PyData → PyData) : ∀ xs : List PyData, xs.flatMap (fun y => if p y then [f y] else []) = (xs.filter p).map f
  | [] => rfl
  | x :: xs => by
    rw [List.flatMap_cons, flatMap_if p f xs]
    cases h : p x <;> simp [h]
theorem flatMap_if_len (p : PyData → Bool) (f : PyData → PyData) (xs : List PyData) : (xs.flatMap (fun y => if p y then [f y] else [])).length ≤ xs.length := by
  rw [flatMap_if, List.length_map]
  exact List.length_filter_le _ _

/- one clause, with or without a test -/
theorem evn_comp1 {cl : List (Str × Addr)} {iter : Expr} {ifs : List Expr} {x : Str} {px : Pos} {xs : List PyData} (p : PyData → Bool) (f : PyData → PyData)
    (hfold : ∀ x, foldedSetIterable iter env x = pure x) (hclos : closureFor scope env = pure cl) (hkind : scope.kind = .function) (hnames : ∀ y ∈ scope.names, y.2 = .local → scope.names.lookup y.1 = some .local)
    (hown : ∀ C, ∃ own, Own scope C own ∧ Var (cEnv scope cl C env) own [x] x)
    (hit : Ev prog w A (eval iter env) W (Src prog w A xs)) (hlen : xs.length ≤ sizeLine)
    (body : ∀ y ∈ xs, ∀ (W' : Wld g) C v, W.Le W' → IsV W'.F v y → Nm W'.h (cEnv scope cl C env) x v → Tsts prog w A (cEnv scope cl C env) ifs W' (p y) ∧ (p y = true → Ex prog w A (cEnv scope cl C env) elt W' (V (f y)))) :
    EvN prog w A (eval (.ListComp elt [⟨.Name x px, iter, ifs, 0⟩] scope pos) env) W ((xs.filter p).map f) := by
  rw [← flatMap_if]
  refine comp_gen (vs := [x]) (fun y => if p y then [f y] else []) (fun I D C => do
        let ok ← tests ifs (cEnv scope cl C env)
        if ok then
          (do let _ ← call (.builtin "list.append") [.ref D, ← eval elt (cEnv scope cl C env)])
        again (.compLoop (.ListComp elt [⟨.Name x px, iter, ifs, 0⟩] scope pos) 0 (.ref I) (.ref D) (cEnv scope cl C env))) rfl hfold hclos hkind hnames hown hit (fun I D C => compTurn_last rfl rfl) ?_
  intro W₀ W' own I D C i y v ys m' cm' s E l₀ hOwn hy hys hv C' nm hs
  obtain ⟨ht, he⟩ := body y (List.mem_of_getElem? hy) W' C v (l₀.trans C'.le) hv nm
  refine turn_emit hs C' ht he ?_
  rw [hys]
  refine Nat.le_trans (flatMap_if_len p f _) ?_
  rw [List.length_take]
  lia

theorem Agree.widen {vs vs' : List Str} {m m' : Str → Option Value} (a : Agree vs m m') (h : ∀ z ∈ vs, z ∈ vs') : Agree vs' m m' := fun z hz => a z fun q => hz (h z q)

/- a clause over a range within a turn -/
theorem turn_mid {d : Nat} {iter' : Expr} {vs vs' : List Str} {x' : Str} {px' : Pos} {c : Code} {s : Shared} {E : Value → Shared → Prop} {a b : Int} {n : Nat} (out' : PyData → List PyData) (rest' : Addr → Sem Fin) (hh : A.handled = none) (hs : s.heap = W.h)
    (C : CI W₀ W cenv own D m cm ys) (hk : cenv.scope.kind = .function)
    (hfold : ∀ x, foldedSetIterable iter' cenv x = pure x) {cl' : Comprehension} (hd : gens[d + 1]? = some cl') (ha : cl'.is_async = 0)
    (hr : Ex prog w A cenv iter' W (Rg a b)) (hsm : Builtin.Range.small a b 1 = true) (hn : Builtin.Range.rangeSize a b 1 = (n : Int)) (V' : Var cenv own vs' x') (hvs : ∀ z ∈ vs', z ∈ vs)
    (htree : ∀ I, compTurn (.ListComp elt gens scope pos) (d + 1) (.ref I) (.ref D) cenv = (standAt iter'.pos >>= fun _ => pyNext (.ref I) >>= fun r => match r with
      | none => pure (.done .next)
      | some v => letOwnedTupleGo (.Name x' px') (.ref I) v >>= fun _ => assign (.Name x' px') cenv v >>= fun _ => rest' I))
    (turn : ∀ (W' : Wld g) (I : Addr) (i : Nat) y v ys' m' cm' (s : Shared) (E : Value → Shared → Prop), W.F = W.F → (rng a n)[i]? = some y → IsV W'.F v y → ys' = ys ++ ((rng a n).take i).flatMap out' → CI W₀ W' cenv own D m' cm' ys' → Agree vs' m m' → Nm W'.h cenv x' v → s.heap = W'.h →
      wpAny (model prog w) A (rest' I) (TurnPost W₀ W' cenv own D vs' m' s (.compLoop (.ListComp elt gens scope pos) (d + 1) (.ref I) (.ref D) cenv) (ys' ++ out' y)) E s) :
    wpAny (model prog w) A (do
        let ok ← tests [] cenv
        if ok then
          let x ← eval iter' cenv
          standAt iter'.pos
          let x ← foldedSetIterable iter' cenv x
          let _ ← runOwn (.compStart (.ListComp elt gens scope pos) (d + 1) (← holding [x] (pyIter x)) (.ref D) cenv) cenv
        again c) (TurnPost W₀ W cenv own D vs m s c (ys ++ (rng a n).flatMap out')) E s := by
  refine wpAny_bind (wpAny_pure ?_)
  simp only [if_true]
  refine wpAny_bind (hr W (.refl _) s hs _ _ fun W₁ tk xv l₁ rg => wpAny_bind (wpAny_standAt (wpAny_bind (wpAny_of_eq (hfold xv) (wpAny_bind (wpAny_holding ?_))))))
  refine iter_range (W := W₁) hh rg hsm hn rfl fun I P St h' J hP st kp hI0 => ?_
  dsimp only at kp hI0 ⊢
  let W₂ := W₁.grow h' kp
  have l₂ : W₁.Le W₂ := W₁.grow_le h' kp
  have C₂ := (C.up l₁).up l₂
  refine wpAny_bind (wpAny_runOwn ?_)
  have lI : W₀.h.get? I = none := by
    cases q : W₀.h.get? I with
    | none => rfl
    | some o => obtain ⟨o', e'⟩ := (C.up l₁).le.there q; rw [hI0] at e'; cases e'
  have hID : ∀ b ∈ [I], b ∉ D :: cenv.locals :: own := by
    intro b hb hm
    rw [List.mem_singleton.mp hb] at hm
    have C₁ := C.up l₁
    rcases List.mem_cons.mp hm with q | hm
    · obtain ⟨vs, n, e, _⟩ := C₁.acc
      rw [← q, hI0] at e; cases e
    · rcases List.mem_cons.mp hm with q | hm
      · obtain ⟨o, e, _⟩ := ns_obj C₁.loc
        rw [← q, hI0] at e; cases e
      · obtain ⟨o, e, _⟩ := cell_obj (C₁.cl I hm).1
        rw [hI0] at e; cases e
  have key : ∀ R' : Result → Shared → Prop, (∀ s', wpAny (model prog w) A (again c) (TurnPost W₀ W cenv own D vs m s c (ys ++ (rng a n).flatMap out')) E s' → R' (.ok .next) s') →
      codeAny (model prog w) A (.compStart (.ListComp elt gens scope pos) (d + 1) (.ref I) (.ref D) cenv) R' { s with heap := h', toks := tk } := by
    intro R' hR'
    have loop : ∀ s₃ : Shared, s₃.heap = W₂.h → s₃ = { s with heap := W₂.h, toks := tk } → codeAny (model prog w) A (.compLoop (.ListComp elt gens scope pos) (d + 1) (.ref I) (.ref D) cenv) R' s₃ := by
      intro s₃ hs₃ e₃
      refine loop_gen (R := R') (W := W₂) (Wb := W₁) (W₀ := W₀) (vs := vs') (P := P) (St := St) (fp := [I]) (xs := rng a n) (rest := rest' I) out' (fun s E h => hden_list s E h) rfl iter'.pos (htree I) (by rw [rng_len]; exact J) (fun i v hv => ?_) hID hk V' hs₃ C₂ st
        (Wld.F_none (W := W₁) hI0) lI l₂ hI0 (fun i y v ys' W₃ m' cm' tk₃ hy hv C₃ ag nm e => ?_) (fun W₃ m' cm' tk₃ C₃ ag mv => ?_)
      · obtain ⟨y, hy, iv⟩ := hP i v hv
        exact ⟨y, hy, fun W' _ => iv W'.F⟩
      · exact turn W₃ I i y v ys' m' cm' _ _ rfl hy hv e C₃ ag nm rfl
      · refine hR' _ (wpAny_pure ⟨rfl, W₃, m', cm', tk₃, by rw [e₃], C₃, ag.widen hvs, (Mv.of_le l₁).trans mv⟩)
    exact start_gen hd ha (loop _ rfl rfl) (J.wk.self 0 _ _ _ st (loop _ rfl rfl))
  exact key _ fun s' h => h
end
end Mine
namespace Mine
section
variable {g : Heap} {prog : Program} {w : World} {A : Around} {W₀ W : Wld g} {env : Env}

/- globals and built-ins by name -/
theorem ex_global {n : Str} {pos : Pos} {v : Value} {mg : Str → Option Value} (hk : env.scope.kind = .function) (hg : env.globals = mainGlobals) (hx : env.kindOf n = some .globalImplicit) (G : g.Ns mainGlobals mg) (hv : mg n = some v)
    (hd : (n == ("__debug__" : Str)) = false) : Ex prog w A env (.Name n pos) W fun _ v' => v' = v := by
  intro W' l s hs Q E k
  have z := k W' s.toks v (.refl _) rfl
  rw [← hs] at z
  refine Name_function_global hk hx (loadGlobal_global (mg := mg) ?_ hv z) hd
  rw [hg]
  exact G.keeps fun b o e => by rw [hs]; exact W'.old e
theorem ex_builtin {n : Str} {pos : Pos} {v : Value} {mg mb : Str → Option Value} (hk : env.scope.kind = .function) (hg : env.globals = mainGlobals) (hbn : env.builtins = builtinsNs) (hx : env.kindOf n = some .globalImplicit) (G : g.Ns mainGlobals mg) (hm : mg n = none)
    (B : g.Ns builtinsNs mb) (hv : mb n = some v) (hd : (n == ("__debug__" : Str)) = false) : Ex prog w A env (.Name n pos) W fun _ v' => v' = v := by
  intro W' l s hs Q E k
  have z := k W' s.toks v (.refl _) rfl
  rw [← hs] at z
  refine Name_function_global hk hx (loadGlobal_builtin (mg := mg) (mb := mb) ?_ hm ?_ hv z) hd
  · rw [hg]; exact G.keeps fun b o e => by rw [hs]; exact W'.old e
  · rw [hbn]; exact B.keeps fun b o e => by rw [hs]; exact W'.old e

/- calls -/
noncomputable def machine : Value → Bool
  | .ref _ => false
  | _ => true
theorem callWith_machine {M : Model} {E : Value → Shared → Prop} {s : Shared} {pos : Pos} {f : Value} {args : List (Bool × Sem Value)} {Q : Value → Shared → Prop} (hf : machine f = true) (hplain : args.any (·.1) = false)
    (h : wpAny M A (evalArgs f true args []) (fun a s₁ => wpAny M A (call f a.pos a.kw) Q E s₁) E s) :
    wpAny M A (callWith pos f [] args []) Q E s := by
  unfold callWith
  refine wpAny_bind (wpAny_holding (wpAny_mono h (fun a s₁ h₁ => wpAny_bind (wpAny_standAt ?_)) fun _ _ x => x))
  simp only [hplain, List.any_nil, Bool.or_false]
  have e : keeperOf f = pure .machine := by cases f <;> first | rfl | cases hf
  rw [e]
  refine wpAny_bind (wpAny_pure ?_)
  exact wpAny_bind (wpAny_mono h₁ (fun r s₂ hr => wpAny_bind (wpAny_holding (wpAny_point (wpAny_pure hr)))) fun _ _ x => x)
theorem eval_Call_Name {x : Str} {np pos : Pos} {args : List Expr} : eval (.Call (.Name x np) args [] pos) env = (do callWith pos (← eval (.Name x np) env) [] (backTo pos (starEach args env)) (backToKw pos (keywordEach [] env))) := rfl

theorem ex_call1 {x : Str} {np pos : Pos} {e : Expr} {f : Value} {P₁ P : Wld g → Value → Prop} (hf : Ex prog w A env (.Name x np) W fun _ v => v = f) (hm : machine f = true) (hs : starEach [e] env = [(false, eval e env)])
    (h1 : Ex prog w A env e W P₁) (h : ∀ W₁ a, W.Le W₁ → P₁ W₁ a → Ev prog w A (call f [a]) W₁ P) : Ex prog w A env (.Call (.Name x np) [e] [] pos) W P := by
  intro W' lw s hs' Q E k
  rw [eval_Call_Name, hs]
  refine wpAny_bind (hf W' lw s hs' _ _ fun W₁ tk v l₁ e => ?_)
  subst e
  refine callWith_machine hm rfl (evalArgs_plain (spliced_cons (h1 W₁ (lw.trans l₁) _ rfl _ _ fun W₂ tk₂ a l₂ p₂ => spliced_nil ?_)))
  exact h W₂ a ((lw.trans l₁).trans l₂) p₂ W₂ (.refl _) _ rfl Q E fun W₃ tk₃ v l₃ p₃ => k W₃ tk₃ v ((l₁.trans l₂).trans l₃) p₃
theorem evn_call1 {x : Str} {np pos : Pos} {e : Expr} {f : Value} {P₁ : Wld g → Value → Prop} {xs : List PyData} (hf : Ex prog w A env (.Name x np) W fun _ v => v = f) (hm : machine f = true) (hs : starEach [e] env = [(false, eval e env)])
    (h1 : Ex prog w A env e W P₁) (h : ∀ W₁ a, W.Le W₁ → P₁ W₁ a → EvN prog w A (call f [a]) W₁ xs) : EvN prog w A (eval (.Call (.Name x np) [e] [] pos) env) W xs := by
  intro W' lw s hs' Q E k
  rw [eval_Call_Name, hs]
  refine wpAny_bind (hf W' lw s hs' _ _ fun W₁ tk v l₁ e => ?_)
  subst e
  refine callWith_machine hm rfl (evalArgs_plain (spliced_cons (h1 W₁ (lw.trans l₁) _ rfl _ _ fun W₂ tk₂ a l₂ p₂ => spliced_nil ?_)))
  refine h W₂ a ((lw.trans l₁).trans l₂) p₂ W₂ (.refl _) _ rfl Q E fun W₃ tk₃ v l₃ p₃ => k W₃ tk₃ v ((l₁.trans l₂).trans l₃) ?_
  obtain ⟨D, vs, n, e1, e2, e3, e4, e5⟩ := p₃
  exact ⟨D, vs, n, e1, e2, e3, e4, by
    cases z : W'.h.get? D with
    | none => rfl
    | some o => obtain ⟨o', z'⟩ := (l₁.trans l₂).there z; rw [e5] at z'; cases z'⟩
theorem ex_call2 {x : Str} {np pos : Pos} {e₁ e₂ : Expr} {f : Value} {P₁ P₂ P : Wld g → Value → Prop} (hf : Ex prog w A env (.Name x np) W fun _ v => v = f) (hm : machine f = true) (hs : starEach [e₁, e₂] env = [(false, eval e₁ env), (false, eval e₂ env)])
    (h1 : Ex prog w A env e₁ W P₁) (h2 : Ex prog w A env e₂ W P₂) (h : ∀ W₁ W₂ a b, W.Le W₁ → W₁.Le W₂ → P₁ W₁ a → P₂ W₂ b → Ev prog w A (call f [a, b]) W₂ P) : Ex prog w A env (.Call (.Name x np) [e₁, e₂] [] pos) W P := by
  intro W' lw s hs' Q E k
  rw [eval_Call_Name, hs]
  refine wpAny_bind (hf W' lw s hs' _ _ fun W₁ tk v l₁ e => ?_)
  subst e
  refine callWith_machine hm rfl (evalArgs_plain (spliced_cons (h1 W₁ (lw.trans l₁) _ rfl _ _ fun W₂ tk₂ a l₂ p₂ => spliced_cons (h2 W₂ ((lw.trans l₁).trans l₂) _ rfl _ _ fun W₃ tk₃ b l₃ p₃ => spliced_nil ?_))))
  exact h W₂ W₃ a b ((lw.trans l₁).trans l₂) l₃ p₂ p₃ W₃ (.refl _) _ rfl Q E fun W₄ tk₄ v l₄ p₄ => k W₄ tk₄ v (((l₁.trans l₂).trans l₃).trans l₄) p₄
/- a def of the text -/
noncomputable def IsFn (W : Wld g) (f : Value) : Prop := ∃ a o fd, f = .ref a ∧ g.get? a = some o ∧ o.data = .func fd
theorem ex_fn2 {x : Str} {np pos : Pos} {e₁ e₂ : Expr} {f : Value} {P₁ P₂ P : Wld g → Value → Prop} (hf : Ex prog w A env (.Name x np) W fun _ v => v = f) (hm : IsFn W f) (hs : starEach [e₁, e₂] env = [(false, eval e₁ env), (false, eval e₂ env)])
    (h1 : Ex prog w A env e₁ W P₁) (h2 : Ex prog w A env e₂ W P₂) (h : ∀ W₁ W₂ a b, W.Le W₁ → W₁.Le W₂ → P₁ W₁ a → P₂ W₂ b → Ev prog w A (call f [a, b]) W₂ P) : Ex prog w A env (.Call (.Name x np) [e₁, e₂] [] pos) W P := by
  intro W' lw s hs' Q E k
  rw [eval_Call_Name, hs]
  refine wpAny_bind (hf W' lw s hs' _ _ fun W₁ tk v l₁ e => ?_)
  subst e
  obtain ⟨a, o, fd, rfl, ho, hd⟩ := hm
  refine callWith_function (evalArgs_plain (spliced_cons (h1 W₁ (lw.trans l₁) _ rfl _ _ fun W₂ tk₂ a l₂ p₂ => spliced_cons (h2 W₂ ((lw.trans l₁).trans l₂) _ rfl _ _ fun W₃ tk₃ b l₃ p₃ => spliced_nil ⟨⟨W₃.old ho, hd⟩, ?_⟩))))
  exact h W₂ W₃ _ b ((lw.trans l₁).trans l₂) l₃ p₂ p₃ W₃ (.refl _) _ rfl Q E fun W₄ tk₄ v l₄ p₄ => k W₄ tk₄ v (((l₁.trans l₂).trans l₃).trans l₄) p₄
theorem ex_fn3 {x : Str} {np pos : Pos} {e₁ e₂ e₃ : Expr} {f : Value} {P₁ P₂ P₃ P : Wld g → Value → Prop} (hf : Ex prog w A env (.Name x np) W fun _ v => v = f) (hm : IsFn W f) (hs : starEach [e₁, e₂, e₃] env = [(false, eval e₁ env), (false, eval e₂ env), (false, eval e₃ env)])
    (h1 : Ex prog w A env e₁ W P₁) (h2 : Ex prog w A env e₂ W P₂) (h3 : Ex prog w A env e₃ W P₃) (h : ∀ W₁ W₂ W₃ a b c, W.Le W₁ → W₁.Le W₂ → W₂.Le W₃ → P₁ W₁ a → P₂ W₂ b → P₃ W₃ c → Ev prog w A (call f [a, b, c]) W₃ P) : Ex prog w A env (.Call (.Name x np) [e₁, e₂, e₃] [] pos) W P := by
  intro W' lw s hs' Q E k
  rw [eval_Call_Name, hs]
  refine wpAny_bind (hf W' lw s hs' _ _ fun W₁ tk v l₁ e => ?_)
  subst e
  obtain ⟨a, o, fd, rfl, ho, hd⟩ := hm
  refine callWith_function (evalArgs_plain (spliced_cons (h1 W₁ (lw.trans l₁) _ rfl _ _ fun W₂ tk₂ a l₂ p₂ => spliced_cons (h2 W₂ ((lw.trans l₁).trans l₂) _ rfl _ _ fun W₃ tk₃ b l₃ p₃ =>
    spliced_cons (h3 W₃ (((lw.trans l₁).trans l₂).trans l₃) _ rfl _ _ fun W₄ tk₄ c l₄ p₄ => spliced_nil ⟨⟨W₄.old ho, hd⟩, ?_⟩)))))
  exact h W₂ W₃ W₄ _ b c ((lw.trans l₁).trans l₂) l₃ l₄ p₂ p₃ p₄ W₄ (.refl _) _ rfl Q E fun W₅ tk₅ v l₅ p₅ => k W₅ tk₅ v ((((l₁.trans l₂).trans l₃).trans l₄).trans l₅) p₅

/- built-in functions -/
theorem ev_len {xs : List PyData} {v : Value} (h : SL xs W v) (hlen : (xs.length : Int) < 2 ^ 63) : Ev prog w A (call (.builtin "len") [v]) W (V (.int xs.length)) := by
  intro W' l s hs Q E k
  obtain ⟨a, vs, rfl, hl, q⟩ := h.le l
  have e : vs.size = xs.length := by have := q.length; simpa using this
  refine len_list (s := s) (by rw [hs]; exact hl) (by rw [e]; exact hlen) ?_
  have z := k W' (s.toks + 1 + 1) (.int vs.size (s.toks + 1)) (.refl _) (by rw [e]; exact .int _ _)
  rw [← hs] at z
  exact z
noncomputable def intSum : List Int → Int
  | [] => 0
  | x :: xs => x + intSum xs
theorem intSum_eq (l : List Int) : intSum l = l.sum := by
  induction l with
  | nil => rfl
  | cons x xs ih => rw [intSum, ih, List.sum_cons]
theorem ev_sum {ns : List Int} {v : Value} (h : Src prog w A.in1 (ns.map .int) W v) (hm : ∀ W', W.Le W' → Src prog w A.in1 (ns.map .int) W' v) : Ev prog w A (call (.builtin "sum") [v]) W (V (.int ns.sum)) := by
  intro W' l s hs Q E k
  refine call_sum_walkG ?_
  refine (hm W' l) s _ E hs fun I fp P St h' J hP st kp hI => ?_
  have len : (ns.map PyData.int).length = ns.length := List.length_map ..
  refine ⟨I, fp, [I], _, P, St, fun i => ns.getD i 0, rfl, J.wk, st, fun b hb => ?_, fun i v hv => ?_, fun h'' tk t' kp' => ?_⟩
  · obtain ⟨o, e, _⟩ := J.fm _ _ st b hb
    exact Heap.lt_size e
  · obtain ⟨x, hx, iv⟩ := hP i v hv
    rw [List.getElem?_map] at hx
    cases hn : ns[i]? with
    | none => rw [hn] at hx; cases hx
    | some n =>
      rw [hn] at hx; cases hx
      cases iv with
      | int _ t => exact ⟨t, by simp [List.getD, hn]⟩
  · rw [len, preSum_getD, List.take_length]
    dsimp only at kp'
    have kp2 : ∀ b o, W'.h.get? b = some o → h''.get? b = some o := fun b o e => kp' b o (fun q => by
      rw [List.mem_singleton.mp q, ← hs, hI] at e; cases e) (kp b o (by rw [hs]; exact e))
    exact k (W'.grow h'' kp2) tk (.int ns.sum t') (W'.grow_le h'' kp2) (.int _ _)
theorem ev_range1 {n : Int} {t : Tok} : Ev prog w A (call (.type "range") [.int n t]) W (Rg 0 n) := by
  intro W' l s hs Q E k
  refine call_range_1 ?_
  obtain ⟨W₁, e1, l1, eF, e2, h0⟩ := Wld.push_new hs { cls := .type "range", data := .fields #[.int 0 s.toks, .int n t, .int 1 (s.toks + 1)] } rfl
  have z := k W₁ (s.toks + 1 + 1) (.ref s.heap.objs.size) l1 ⟨_, _, _, _, rfl, e2⟩
  rw [e1] at z
  exact z
theorem ev_range2 {a b : Int} {t u : Tok} : Ev prog w A (call (.type "range") [.int a t, .int b u]) W (Rg a b) := by
  intro W' l s hs Q E k
  refine call_range_2 ?_
  obtain ⟨W₁, e1, l1, eF, e2, h0⟩ := Wld.push_new hs { cls := .type "range", data := .fields #[.int a t, .int b u, .int 1 s.toks] } rfl
  have z := k W₁ (s.toks + 1) (.ref s.heap.objs.size) l1 ⟨_, _, _, _, rfl, e2⟩
  rw [e1] at z
  exact z
/- list(xs) of a list or a tuple -/
theorem evn_listOf {xs : List PyData} {v : Value} (h : (SL xs W v) ∨ ST xs W v) (hlen : xs.length ≤ sizeLine) : EvN prog w A (call (.type "list") [v]) W xs := by
  intro W' l s hs Q E k
  have go : ∀ (a : Addr) (T : String) (o : Obj) (vs : Array Value) (n : Nat), (T = "list" ∨ T = "tuple") → v = .ref a → W'.h.get? a = some o → o.cls = .type T → o.data = .seq vs n → IsVs W'.F vs.toList xs → wpAny (model prog w) A (call (.type "list") [v]) Q E s := by
    rintro a T o vs n hT rfl ho hc hd q
    have e : vs.size = xs.length := by have := q.length; simpa using this
    refine call_list_seq a hT (by rw [hs]; exact ho) hc hd (fun h' c' kp e2 => ?_) (by rw [e]; exact hlen)
    have kp2 : ∀ b o, W'.h.get? b = some o → h'.get? b = some o := fun b o e => kp b o (by rw [hs]; exact e)
    have h0 : W'.h.get? s.heap.objs.size = none := W'.new_none (by rw [hs]; exact Nat.le_refl _)
    exact k (W'.grow h' kp2) s.toks _ (W'.grow_le h' kp2) ⟨_, vs, c', rfl, e2, Wld.F_none (W := W') h0, q, h0⟩
  rcases h with h | h
  · obtain ⟨a, vs, e, ⟨o, ho, hc, n, hd⟩, q⟩ := h.le l
    exact go a "list" o vs n (.inl rfl) e ho hc hd q
  · obtain ⟨a, vs, e, ⟨o, ho, hc, n, hd⟩, q⟩ := h.le l
    exact go a "tuple" o vs n (.inr rfl) e ho hc hd q
/- tuple(xs) of a list -/
theorem ev_tupleOf {xs : List PyData} {v : Value} (h : SL xs W v) (hlen : xs.length ≤ sizeLine) : Ev prog w A (call (.type "tuple") [v]) W (V (.tuple xs)) := by
  intro W' l s hs Q E k
  obtain ⟨a, vs, rfl, hl, q⟩ := h.le l
  have e : vs.size = xs.length := by have := q.length; simpa using this
  refine call_tuple_list (s := s) (by rw [hs]; exact hl) (fun h' kp => ?_) (by rw [e]; exact hlen)
  have kp2 : ∀ b o, W'.h.get? b = some o → h'.get? b = some o := fun b o e => kp b o (by rw [hs]; exact e)
  obtain ⟨W₁, e1, l1, eF⟩ := Wld.alloc_le (W := W'.grow h' kp2) (s := { s with heap := h' }) rfl { cls := .type "tuple", data := .seq vs } rfl (.inr ⟨_, rfl⟩)
  have z := k W₁ s.toks (.ref h'.objs.size) ((W'.grow_le h' kp2).trans l1) (.tuple eF rfl rfl ((q.le (W'.grow_le h' kp2)).le l1))
  rw [e1] at z
  exact z
theorem ev_intOf {b : Bool} : Ev prog w A (call (.type "int") [.bool b]) W (V (.int (if b then 1 else 0))) := by
  intro W' l s hs Q E k
  refine call_int_bool ?_
  have z := k W' (s.toks + 1) (.int (if b then 1 else 0) s.toks) (.refl _) (.int _ _)
  rw [← hs] at z
  exact z
/- items -/
theorem ex_sub {value slice : Expr} {pos : Pos} {P₁ P₂ P : Wld g → Value → Prop} (h1 : Ex prog w A env value W P₁) (h2 : Ex prog w A env slice W P₂)
    (h : ∀ W₁ W₂ a b, W.Le W₁ → W₁.Le W₂ → P₁ W₁ a → P₂ W₂ b → Ev prog w A (subscriptTail value slice a b) W₂ P) : Ex prog w A env (.Subscript value slice pos) W P := by
  intro W' lw s hs Q E k
  refine Subscript_ (h1 W' lw s hs _ _ fun W₁ tk a l₁ p₁ => h2 W₁ (lw.trans l₁) _ rfl _ _ fun W₂ tk₂ b l₂ p₂ => ?_)
  exact h W₁ W₂ a b (lw.trans l₁) l₂ p₁ p₂ W₂ (.refl _) _ rfl Q E fun W₃ tk₃ v l₃ p₃ => k W₃ tk₃ v ((l₁.trans l₂).trans l₃) p₃
theorem ex_item {value slice : Expr} {pos : Pos} {xs : List PyData} {k : Int} {x : PyData} (h1 : Ex prog w A env value W (SL xs)) (h2 : Ex prog w A env slice W (V (.int k))) (h0 : 0 ≤ k) (hk : k < 2 ^ 63) (hx : xs[k.toNat]? = some x)
    (hsub : ∀ l u, subscripted slice false (.ref l) (.int k u) = operate [.ref l, .int k u] (getItem (.ref l) (.int k u))) : Ex prog w A env (.Subscript value slice pos) W (V x) := by
  refine ex_sub h1 h2 fun W₁ W₂ a b l₁ l₂ p₁ p₂ => ?_
  cases p₂ with
  | int _ u =>
    intro W' l s hs Q E kk
    obtain ⟨a, vs, rfl, hl, q⟩ := (p₁.le l₂).le l
    have hl' : s.heap.IsList a vs := by rw [hs]; exact hl
    obtain ⟨v, hv, iv⟩ := q.get _ hx
    have z := kk W' s.toks v (.refl _) iv
    rw [← hs] at z
    exact tail_any hl'.typeIs slot_list_getitem.lookup (wpAny_getItem_list hl' h0 hk (by simpa using hv) z) (hsub a u)
theorem ex_itemN {value slice : Expr} {pos : Pos} {xs : List PyData} {k : Int} {x : PyData} (h1 : Ex prog w A env value W (SL xs)) (h2 : Ex prog w A env slice W (V (.int k))) (h0 : k < 0) (hk : -(xs.length : Int) ≤ k) (hf : -(2 ^ 63) ≤ k) (hx : xs[(k + xs.length).toNat]? = some x)
    (hsub : ∀ l u, subscripted slice false (.ref l) (.int k u) = operate [.ref l, .int k u] (getItem (.ref l) (.int k u))) : Ex prog w A env (.Subscript value slice pos) W (V x) := by
  refine ex_sub h1 h2 fun W₁ W₂ a b l₁ l₂ p₁ p₂ => ?_
  cases p₂ with
  | int _ u =>
    intro W' l s hs Q E kk
    obtain ⟨a, vs, rfl, hl, q⟩ := (p₁.le l₂).le l
    have hl' : s.heap.IsList a vs := by rw [hs]; exact hl
    have e : vs.size = xs.length := by have := q.length; simpa using this
    obtain ⟨v, hv, iv⟩ := q.get _ hx
    have z := kk W' s.toks v (.refl _) iv
    rw [← hs] at z
    exact tail_any hl'.typeIs slot_list_getitem.lookup (wpAny_getItem_list_neg hl' h0 (by rw [e]; exact hk) hf (by rw [e]; simpa using hv) z) (hsub a u)
theorem ex_itemT {value slice : Expr} {pos : Pos} {xs : List PyData} {k : Int} {x : PyData} (h1 : Ex prog w A env value W (ST xs)) (h2 : Ex prog w A env slice W (V (.int k))) (h0 : 0 ≤ k) (hk : k < 2 ^ 63) (hx : xs[k.toNat]? = some x)
    (hsub : ∀ l u, subscripted slice false (.ref l) (.int k u) = operate [.ref l, .int k u] (getItem (.ref l) (.int k u))) : Ex prog w A env (.Subscript value slice pos) W (V x) := by
  refine ex_sub h1 h2 fun W₁ W₂ a b l₁ l₂ p₁ p₂ => ?_
  cases p₂ with
  | int _ u =>
    intro W' l s hs Q E kk
    obtain ⟨a, vs, rfl, hl, q⟩ := (p₁.le l₂).le l
    have hl' : IsTup s.heap a vs := by rw [hs]; exact hl
    have e : vs.size = xs.length := by have := q.length; simpa using this
    obtain ⟨v, hv, iv⟩ := q.get _ hx
    have z := kk W' s.toks v (.refl _) iv
    rw [← hs] at z
    have hlt : k.toNat < xs.length := by
      rcases Nat.lt_or_ge k.toNat xs.length with h | h
      · exact h
      · rw [List.getElem?_eq_none h] at hx; cases hx
    exact tail_any hl'.typeIs slot_tuple_getitem.lookup (getItem_tuple (j := k.toNat) hl' (by lia) hk (by rw [e]; unfold seqIndex?; simp; lia) (by simpa using hv) z) (hsub a u)
theorem ex_neg {e : Expr} {pos : Pos} {i : Int} (h : Ex prog w A env e W (V (.int i))) : Ex prog w A env (.UnaryOp .USub e pos) W (V (.int (-i))) := by
  intro W' l s hs Q E k
  refine wpAny_UnaryOp (h W' l s hs _ _ fun W₁ tk v l₁ p => ?_)
  cases p with
  | int _ t => exact P.neg_int (k W₁ (tk + 1) (.int (-i) tk) l₁ (.int _ _))
end
end Mine
namespace Mine

noncomputable def isSeq (o : Obj) : Prop := ∃ vs n, o.data = .seq vs n
noncomputable def isDct (o : Obj) : Prop := ∃ es n, o.data = .dict es n
noncomputable def isFld (o : Obj) : Prop := movable o ∧ ∃ vs, o.data = .fields vs
/- what statements of a frame with its locals at L leave: lists, tuples, other dicts -/
structure Soft {g : Heap} (L : Addr) (W W' : Wld g) : Prop where
  fz : ∀ a o, W.F a = some o → W'.F a = some o
  kp : ∀ b o, W.h.get? b = some o → (isSeq o ∨ (isDct o ∧ b ≠ L)) → W'.h.get? b = some o
  off : ∀ b o, W.h.get? b = some o → (isSeq o ∨ (isDct o ∧ b ≠ L)) → W.F b = none → W'.F b = none
/- what they leave of iterators at work -/
structure Hard {g : Heap} (W W' : Wld g) : Prop where
  fz : ∀ a o, W.F a = some o → W'.F a = some o
  kp : ∀ b o, W.h.get? b = some o → isFld o → W'.h.get? b = some o
  off : ∀ b o, W.h.get? b = some o → isFld o → W.F b = none → W'.F b = none
structure Step {g : Heap} (L : Addr) (W W' : Wld g) : Prop where
  so : Soft L W W'
  ha : Hard W W'
section
variable {g : Heap} {L : Addr} {W W' W'' : Wld g}
theorem isSeq.mv {o : Obj} (h : isSeq o) : movable o := .inl fun vs q => by obtain ⟨vs, n, e⟩ := h; rw [e] at q; cases q
theorem isDct.mv {o : Obj} (h : isDct o) : movable o := .inl fun vs q => by obtain ⟨vs, n, e⟩ := h; rw [e] at q; cases q
theorem soft_mv {b : Addr} {o : Obj} (h : isSeq o ∨ (isDct o ∧ b ≠ L)) : movable o := h.elim (·.mv) (·.1.mv)
theorem Soft.trans (a : Soft L W W') (b : Soft L W' W'') : Soft L W W'' :=
  ⟨fun x o e => b.fz x o (a.fz x o e), fun x o e m => b.kp x o (a.kp x o e m) m, fun x o e m f => b.off x o (a.kp x o e m) m (a.off x o e m f)⟩
theorem Hard.trans (a : Hard W W') (b : Hard W' W'') : Hard W W'' :=
  ⟨fun x o e => b.fz x o (a.fz x o e), fun x o e m => b.kp x o (a.kp x o e m) m, fun x o e m f => b.off x o (a.kp x o e m) m (a.off x o e m f)⟩
theorem Step.trans (a : Step L W W') (b : Step L W' W'') : Step L W W'' := ⟨a.so.trans b.so, a.ha.trans b.ha⟩
theorem Soft.of_le (l : W.Le W') : Soft L W W' := ⟨l.fz, fun b o e m => l.mv e (soft_mv m), fun b o e m f => l.off' f e⟩
theorem Hard.of_le (l : W.Le W') : Hard W W' := ⟨l.fz, fun b o e m => l.mv e m.1, fun b o e m f => l.off' f e⟩
theorem Step.of_le (l : W.Le W') : Step L W W' := ⟨.of_le l, .of_le l⟩
theorem Soft.refl : Soft L W W := .of_le (.refl W)
theorem Step.refl : Step L W W := .of_le (.refl W)
/- the object at x, of another kind, was changed -/
theorem Soft.but {x : Addr} {o : Obj} (e : W.h.get? x = some o) (hn : ¬ isSeq o) (hn2 : ¬ (isDct o ∧ x ≠ L)) (hF : W'.F = W.F) (k : ∀ b o, b ≠ x → W.h.get? b = some o → W'.h.get? b = some o) : Soft L W W' := by
  have ne : ∀ b p, W.h.get? b = some p → (isSeq p ∨ (isDct p ∧ b ≠ L)) → b ≠ x := fun b p ep m q => by
    subst q; rw [e] at ep; cases ep
    exact m.elim hn hn2
  exact ⟨fun a o e => hF ▸ e, fun b p ep m => k b p (ne b p ep m) ep, fun b p ep m f => hF ▸ f⟩
theorem Hard.but {x : Addr} {o : Obj} (e : W.h.get? x = some o) (hn : ¬ ∃ vs, o.data = .fields vs) (hF : W'.F = W.F) (k : ∀ b o, b ≠ x → W.h.get? b = some o → W'.h.get? b = some o) : Hard W W' :=
  ⟨fun a o e => hF ▸ e, fun b p ep m => k b p (fun q => by subst q; rw [e] at ep; cases ep; exact hn m.2) ep, fun b p ep m f => hF ▸ f⟩

/- a list that is not frozen -/
noncomputable def UL (W : Wld g) (D : Addr) (xs : List PyData) : Prop := ∃ vs n, W.h.get? D = some { cls := .type "list", data := .seq vs n } ∧ W.F D = none ∧ IsVs W.F vs.toList xs
theorem UL.soft {D : Addr} {xs : List PyData} (h : UL W D xs) (s : Soft L W W') : UL W' D xs := by
  obtain ⟨vs, n, e, f, q⟩ := h
  have m : isSeq ({ cls := .type "list", data := .seq vs n } : Obj) := ⟨_, _, rfl⟩
  exact ⟨vs, n, s.kp D _ e (.inl m), s.off D _ e (.inl m) f, q.mono s.fz⟩
theorem UL.sl {D : Addr} {xs : List PyData} (h : UL W D xs) : SL xs W (.ref D) := by
  obtain ⟨vs, n, e, f, q⟩ := h
  exact ⟨D, vs, rfl, ⟨_, e, rfl, n, rfl⟩, q⟩
theorem SL.soft {v : Value} {xs : List PyData} (h : SL xs W v) (s : Soft L W W') : SL xs W' v := by
  obtain ⟨a, vs, e, ⟨o, eo, ec, n, ed⟩, q⟩ := h
  exact ⟨a, vs, e, ⟨o, s.kp a o eo (.inl ⟨_, _, ed⟩), ec, n, ed⟩, q.mono s.fz⟩
theorem UL.up {D : Addr} {xs : List PyData} (h : UL W D xs) (l : W.Le W') : UL W' D xs := h.soft (L := 0) (.of_le l)
theorem UL.lt {D : Addr} {xs : List PyData} (h : UL W D xs) : ∃ o, W.h.get? D = some o := let ⟨vs, n, e, _⟩ := h; ⟨_, e⟩
end

/- a frame at work: its locals and its own cells -/
structure FS {g : Heap} (B W : Wld g) (env : Env) (own : List Addr) (m : Str → Option Value) (cm : Addr → Option Value) : Prop where
  le : B.Le W
  loc : W.h.Ns env.locals m
  locF : W.F env.locals = none
  loc0 : B.h.get? env.locals = none
  cl : ∀ c ∈ own, W.h.IsCell c (cm c) ∧ W.F c = none ∧ B.h.get? c = none

noncomputable def upd {α : Type} [DecidableEq α] (m : α → Option Value) (x : α) (v : Value) : α → Option Value := fun y => if y = x then some v else m y
theorem upd_at {α : Type} [DecidableEq α] {m : α → Option Value} {x : α} {v : Value} : upd m x v x = some v := if_pos rfl
theorem upd_ne {α : Type} [DecidableEq α] {m : α → Option Value} {x y : α} {v : Value} (h : y ≠ x) : upd m x v y = m y := if_neg h

section
variable {g : Heap} {prog : Program} {w : World} {A : Around} {B W W' : Wld g} {env : Env} {own : List Addr} {m : Str → Option Value} {cm : Addr → Option Value} {s : Shared} {Q : Flow → Shared → Prop} {E : Value → Shared → Prop} {rest : List Stmt}

theorem ns_dct {h : Heap} {a : Addr} {m : Str → Option Value} (x : h.Ns a m) : ∃ o, h.get? a = some o ∧ isDct o ∧ loose o := let ⟨o, es, ep, e, d, _⟩ := x; ⟨o, e, ⟨es, ep, d⟩, .inl fun vs q => by rw [d] at q; cases q⟩
theorem FS.up (F : FS B W env own m cm) (l : W.Le W') : FS B W' env own m cm := by
  obtain ⟨oL, eL, dL, loL⟩ := ns_dct F.loc
  refine ⟨F.le.trans l, ?_, l.off' F.locF eL, F.loc0, fun c hc => ?_⟩
  · obtain ⟨o, es, ep, e, d, r⟩ := F.loc
    exact ⟨o, es, ep, l.mv e (.inl fun vs q => by rw [d] at q; cases q), d, r⟩
  · obtain ⟨⟨o, e, d⟩, f, z⟩ := F.cl c hc
    exact ⟨⟨o, l.mv e (.inl fun vs q => by rw [d] at q; cases q), d⟩, l.off' f e, z⟩
/- something that is neither the locals nor a cell was changed -/
theorem FS.but (F : FS B W env own m cm) {x : Addr} {o : Obj} (e : W.h.get? x = some o) (hd : ¬ isDct o ∨ x ≠ env.locals) (hc : ∀ v, o.data ≠ .cell v) (h0 : B.h.get? x = none) (hF : W'.F = W.F) (k : ∀ b o, b ≠ x → W.h.get? b = some o → W'.h.get? b = some o) : FS B W' env own m cm := by
  refine ⟨F.le.but h0 hF k, ?_, hF ▸ F.locF, F.loc0, fun c hc' => ?_⟩
  · obtain ⟨oL, es, ep, eL, d, r⟩ := F.loc
    refine ⟨oL, es, ep, k _ _ (fun q => ?_) eL, d, r⟩
    rcases hd with hd | hd
    · rw [q, e] at eL; cases eL; exact hd ⟨_, _, d⟩
    · exact hd q.symm
  · obtain ⟨⟨oc, ec, d⟩, f, z⟩ := F.cl c hc'
    exact ⟨⟨oc, k _ _ (fun q => by rw [q, e] at ec; cases ec; exact hc _ d) ec, d⟩, hF ▸ f, z⟩
theorem FS.store (F : FS B W env own m cm) {x : Str} {v : Value} (hs : s.heap = W.h) {Q : Unit → Shared → Prop} (hx : env.kindOf x = some .local)
    (hp : (env.scope.kind == .class || (env.scope.kind == .module && env.locals != env.globals)) = false)
    (k : ∀ (W' : Wld g) tk, FS B W' env own (upd m x v) cm → Step env.locals W W' → W'.F = W.F → Q () { s with heap := W'.h, toks := tk }) : wpAny (model prog w) A (storeName env x v) Q E s := by
  refine wpAny_storeName_local hx (by rw [hs]; exact F.loc) (fun h' hn hsb => ?_) hp
  obtain ⟨oL, eL, dL, loL⟩ := ns_dct F.loc
  have kp : ∀ b p, b ≠ env.locals → W.h.get? b = some p → h'.get? b = some p := fun b p hb e => hsb.extBut b p hb (by rw [hs]; exact e)
  have nf : ¬ ∃ vs, oL.data = .fields vs := by rintro ⟨vs, q⟩; obtain ⟨es, n, d⟩ := dL; rw [d] at q; cases q
  refine k (W.set env.locals h' eL loL F.locF kp) (s.toks + 1) ⟨F.le.but F.loc0 rfl kp, hn, F.locF, F.loc0, fun c hc => ?_⟩ ⟨Soft.but eL ?_ (fun q => q.2 rfl) rfl kp, Hard.but eL nf rfl kp⟩ rfl
  · obtain ⟨⟨oc, ec, d⟩, f, z⟩ := F.cl c hc
    exact ⟨⟨oc, kp _ _ (fun q => by rw [q, eL] at ec; cases ec; obtain ⟨es, n, d'⟩ := dL; rw [d'] at d; cases d) ec, d⟩, f, z⟩
  · rintro ⟨vs, n, d⟩; obtain ⟨es, n, d'⟩ := dL; rw [d'] at d; cases d
theorem FS.storeC (F : FS B W env own m cm) {x : Str} {v : Value} {c : Addr} (hs : s.heap = W.h) {Q : Unit → Shared → Prop} (hk : env.scope.kind = .function) (hx : env.kindOf x = some .cell) (hc : env.cells.lookup x = some c) (ho : c ∈ own)
    (k : ∀ (W' : Wld g) tk, FS B W' env own m (upd cm c v) → Step env.locals W W' → W'.F = W.F → Q () { s with heap := W'.h, toks := tk }) : wpAny (model prog w) A (storeName env x v) Q E s := by
  obtain ⟨ic, fc, zc⟩ := F.cl c ho
  refine wpAny_storeName_cell hk hx hc (by rw [hs]; exact ic) fun h' hv hsb => ?_
  obtain ⟨oc, ec, loc⟩ := cell_obj ic
  have dc : ∃ v, oc.data = .cell v := by obtain ⟨o, e, d⟩ := ic; rw [ec] at e; cases e; exact ⟨_, d⟩
  have kp : ∀ b p, b ≠ c → W.h.get? b = some p → h'.get? b = some p := fun b p hb e => hsb.extBut b p hb (by rw [hs]; exact e)
  obtain ⟨vc, dc⟩ := dc
  refine k (W.set c h' ec loc fc kp) s.toks ⟨F.le.but zc rfl kp, ?_, F.locF, F.loc0, fun c' hc' => ?_⟩ ⟨Soft.but ec ?_ ?_ rfl kp, Hard.but ec ?_ rfl kp⟩ rfl
  · obtain ⟨oL, es, ep, eL, dL, rL⟩ := F.loc
    exact ⟨oL, es, ep, kp _ _ (fun q => by rw [q, ec] at eL; cases eL; rw [dc] at dL; cases dL) eL, dL, rL⟩
  · by_cases hn : c' = c
    · subst hn
      refine ⟨?_, fc, zc⟩
      rw [upd_at]; exact hv
    · obtain ⟨⟨o, e, d⟩, f, z⟩ := F.cl c' hc'
      refine ⟨?_, f, z⟩
      rw [upd_ne hn]
      exact ⟨o, kp _ _ hn e, d⟩
  · rintro ⟨vs, n, d⟩; rw [dc] at d; cases d
  · rintro ⟨⟨vs, n, d⟩, _⟩; rw [dc] at d; cases d
  · rintro ⟨vs, d⟩; rw [dc] at d; cases d
theorem FS.nm (F : FS B W env own m cm) {x : Str} {v : Value} (hx : env.kindOf x = some .local) (hv : m x = some v) : Nm W.h env x v := .inl ⟨hx, m, F.loc, hv⟩
theorem FS.nmC (F : FS B W env own m cm) {x : Str} {v : Value} {c : Addr} (hx : env.kindOf x = some .cell) (hc : env.cells.lookup x = some c) (ho : c ∈ own) (hv : cm c = some v) : Nm W.h env x v :=
  .inr ⟨.inl hx, c, hc, hv ▸ (F.cl c ho).1⟩

/- statements -/
theorem wp_norm {α : Type} {t : Sem α} {Q : α → Shared → Prop} {E : Value → Shared → Prop} (hs : s.heap = W.h) (h : wpAny (model prog w) A t Q E { s with heap := W.h, toks := s.toks }) : wpAny (model prog w) A t Q E s := by
  rw [← hs] at h
  exact h
theorem st_return0 {e : Expr} {pos : Pos} {P : Wld g → Value → Prop} (hs : s.heap = W.h) (he : Ex prog w A env e W P) (k : ∀ (W' : Wld g) v tk, W.Le W' → P W' v → Q (.ret v) { s with heap := W'.h, toks := tk }) :
    wpAny (model prog w) A (execs (.Return (some e) pos :: rest) env) Q E s :=
  wpAny_execs_cons (wpAny_Return_some (he W (.refl _) s hs _ _ fun W' tk v l p => k W' v tk l p))
theorem st_return {t0 : Nat} {e : Expr} {pos : Pos} {P : Wld g → Value → Prop} (_hs : W.h = W.h) (he : Ex prog w A env e W P) (k : ∀ (W' : Wld g) v tk, W.Le W' → P W' v → Q (.ret v) { s with heap := W'.h, toks := tk }) :
    wpAny (model prog w) A (execs (.Return (some e) pos :: rest) env) Q E { s with heap := W.h, toks := t0 } := st_return0 (s := { s with heap := W.h, toks := t0 }) rfl he k
theorem st_if0 {test : Expr} {body orelse : List Stmt} {pos : Pos} {b : Bool} (hs : s.heap = W.h) (ht : Tst prog w A env test W b)
    (k1 : b = true → ∀ (W' : Wld g) tk, W.Le W' → wpAny (model prog w) A (execs body env) (fun f s' => match f with | .next => wpAny (model prog w) A (execs rest env) Q E s' | f => Q f s') E { s with heap := W'.h, toks := tk })
    (k2 : b = false → ∀ (W' : Wld g) tk, W.Le W' → wpAny (model prog w) A (execs orelse env) (fun f s' => match f with | .next => wpAny (model prog w) A (execs rest env) Q E s' | f => Q f s') E { s with heap := W'.h, toks := tk }) :
    wpAny (model prog w) A (execs (.If test body orelse pos :: rest) env) Q E s := by
  refine wpAny_execs_cons (wpAny_If (ht W (.refl _) s hs _ _ fun W' tk b' l e => ?_))
  subst e
  cases b' with
  | true => exact k1 rfl W' tk l
  | false => exact k2 rfl W' tk l
theorem st_if {t0 : Nat} {test : Expr} {body orelse : List Stmt} {pos : Pos} {b : Bool} (_hs : W.h = W.h) (ht : Tst prog w A env test W b)
    (k1 : b = true → ∀ (W' : Wld g) tk, W.Le W' → wpAny (model prog w) A (execs body env) (fun f s' => match f with | .next => wpAny (model prog w) A (execs rest env) Q E s' | f => Q f s') E { s with heap := W'.h, toks := tk })
    (k2 : b = false → ∀ (W' : Wld g) tk, W.Le W' → wpAny (model prog w) A (execs orelse env) (fun f s' => match f with | .next => wpAny (model prog w) A (execs rest env) Q E s' | f => Q f s') E { s with heap := W'.h, toks := tk }) :
    wpAny (model prog w) A (execs (.If test body orelse pos :: rest) env) Q E { s with heap := W.h, toks := t0 } := st_if0 (s := { s with heap := W.h, toks := t0 }) rfl ht k1 k2
/- if test: <leaves>; the test is false -/
theorem st_skip0 {test : Expr} {body : List Stmt} {pos : Pos} (hs : s.heap = W.h) (ht : Tst prog w A env test W false)
    (k : ∀ (W' : Wld g) tk, W.Le W' → wpAny (model prog w) A (execs rest env) Q E { s with heap := W'.h, toks := tk }) :
    wpAny (model prog w) A (execs (.If test body [] pos :: rest) env) Q E s :=
  st_if0 hs ht (fun h => by cases h) fun _ W' tk l => wpAny_execs_nil (k W' tk l)

theorem st_skip {t0 : Nat} {test : Expr} {body : List Stmt} {pos : Pos} (_hs : W.h = W.h) (ht : Tst prog w A env test W false)
    (k : ∀ (W' : Wld g) tk, W.Le W' → wpAny (model prog w) A (execs rest env) Q E { s with heap := W'.h, toks := tk }) :
    wpAny (model prog w) A (execs (.If test body [] pos :: rest) env) Q E { s with heap := W.h, toks := t0 } := st_skip0 (s := { s with heap := W.h, toks := t0 }) rfl ht k
theorem st_assign0 {x : Str} {px pos : Pos} {e : Expr} {P : Wld g → Value → Prop} (F : FS B W env own m cm) (hs : s.heap = W.h) (he : Ex prog w A env e W P) (hx : env.kindOf x = some .local)
    (hp : (env.scope.kind == .class || (env.scope.kind == .module && env.locals != env.globals)) = false) (hsw : swapsWith e (some (.Name x px)) pos.line env = pure false)
    (k : ∀ (W₁ W₂ : Wld g) v tk, W.Le W₁ → P W₁ v → FS B W₂ env own (upd m x v) cm → Step env.locals W₁ W₂ → W₂.F = W₁.F → wpAny (model prog w) A (execs rest env) Q E { s with heap := W₂.h, toks := tk }) :
    wpAny (model prog w) A (execs (.Assign [.Name x px] e pos :: rest) env) Q E s := by
  refine wpAny_execs_cons (wpAny_Assign_Name (he W (.refl _) s hs _ _ fun W₁ tk v l p => ?_) hsw)
  exact (F.up l).store (s := { s with heap := W₁.h, toks := tk }) rfl hx hp fun W₂ tk₂ F₂ st hF => k W₁ W₂ v tk₂ l p F₂ st hF
theorem st_assign {t0 : Nat} {x : Str} {px pos : Pos} {e : Expr} {P : Wld g → Value → Prop} (F : FS B W env own m cm) (_hs : W.h = W.h) (he : Ex prog w A env e W P) (hx : env.kindOf x = some .local)
    (hp : (env.scope.kind == .class || (env.scope.kind == .module && env.locals != env.globals)) = false) (hsw : swapsWith e (some (.Name x px)) pos.line env = pure false)
    (k : ∀ (W₁ W₂ : Wld g) v tk, W.Le W₁ → P W₁ v → FS B W₂ env own (upd m x v) cm → Step env.locals W₁ W₂ → W₂.F = W₁.F → wpAny (model prog w) A (execs rest env) Q E { s with heap := W₂.h, toks := tk }) :
    wpAny (model prog w) A (execs (.Assign [.Name x px] e pos :: rest) env) Q E { s with heap := W.h, toks := t0 } := st_assign0 (s := { s with heap := W.h, toks := t0 }) F rfl he hx hp hsw k
theorem st_assignC0 {x : Str} {px pos : Pos} {e : Expr} {c : Addr} {P : Wld g → Value → Prop} (F : FS B W env own m cm) (hs : s.heap = W.h) (he : Ex prog w A env e W P) (hk : env.scope.kind = .function) (hx : env.kindOf x = some .cell) (hc : env.cells.lookup x = some c) (ho : c ∈ own)
    (hsw : swapsWith e (some (.Name x px)) pos.line env = pure false)
    (k : ∀ (W₁ W₂ : Wld g) v tk, W.Le W₁ → P W₁ v → FS B W₂ env own m (upd cm c v) → Step env.locals W₁ W₂ → W₂.F = W₁.F → wpAny (model prog w) A (execs rest env) Q E { s with heap := W₂.h, toks := tk }) :
    wpAny (model prog w) A (execs (.Assign [.Name x px] e pos :: rest) env) Q E s := by
  refine wpAny_execs_cons (wpAny_Assign_Name (he W (.refl _) s hs _ _ fun W₁ tk v l p => ?_) hsw)
  exact (F.up l).storeC (s := { s with heap := W₁.h, toks := tk }) rfl hk hx hc ho fun W₂ tk₂ F₂ st hF => k W₁ W₂ v tk₂ l p F₂ st hF
theorem st_assignC {t0 : Nat} {x : Str} {px pos : Pos} {e : Expr} {c : Addr} {P : Wld g → Value → Prop} (F : FS B W env own m cm) (_hs : W.h = W.h) (he : Ex prog w A env e W P) (hk : env.scope.kind = .function) (hx : env.kindOf x = some .cell) (hc : env.cells.lookup x = some c) (ho : c ∈ own)
    (hsw : swapsWith e (some (.Name x px)) pos.line env = pure false)
    (k : ∀ (W₁ W₂ : Wld g) v tk, W.Le W₁ → P W₁ v → FS B W₂ env own m (upd cm c v) → Step env.locals W₁ W₂ → W₂.F = W₁.F → wpAny (model prog w) A (execs rest env) Q E { s with heap := W₂.h, toks := tk }) :
    wpAny (model prog w) A (execs (.Assign [.Name x px] e pos :: rest) env) Q E { s with heap := W.h, toks := t0 } := st_assignC0 (s := { s with heap := W.h, toks := t0 }) F rfl he hk hx hc ho hsw k
/- a new list, not frozen, under a local's name -/
theorem st_assignN0 {x : Str} {px pos : Pos} {e : Expr} {xs : List PyData} (F : FS B W env own m cm) (hs : s.heap = W.h) (he : EvN prog w A (eval e env) W xs) (hx : env.kindOf x = some .local)
    (hp : (env.scope.kind == .class || (env.scope.kind == .module && env.locals != env.globals)) = false) (hsw : swapsWith e (some (.Name x px)) pos.line env = pure false)
    (k : ∀ (W₂ : Wld g) D tk, FS B W₂ env own (upd m x (.ref D)) cm → Step env.locals W W₂ → UL W₂ D xs → W.h.get? D = none → wpAny (model prog w) A (execs rest env) Q E { s with heap := W₂.h, toks := tk }) :
    wpAny (model prog w) A (execs (.Assign [.Name x px] e pos :: rest) env) Q E s := by
  refine wpAny_execs_cons (wpAny_Assign_Name (he W (.refl _) s hs _ _ fun W₁ tk v l p => ?_) hsw)
  obtain ⟨D, vs, n, rfl, e, f, q, h0⟩ := p
  refine (F.up l).store (s := { s with heap := W₁.h, toks := tk }) rfl hx hp fun W₂ tk₂ F₂ st hF => ?_
  exact k W₂ D tk₂ F₂ ((Step.of_le l).trans st) (UL.soft (W := W₁) ⟨vs, n, e, f, q⟩ st.so) h0
theorem st_assignN {t0 : Nat} {x : Str} {px pos : Pos} {e : Expr} {xs : List PyData} (F : FS B W env own m cm) (_hs : W.h = W.h) (he : EvN prog w A (eval e env) W xs) (hx : env.kindOf x = some .local)
    (hp : (env.scope.kind == .class || (env.scope.kind == .module && env.locals != env.globals)) = false) (hsw : swapsWith e (some (.Name x px)) pos.line env = pure false)
    (k : ∀ (W₂ : Wld g) D tk, FS B W₂ env own (upd m x (.ref D)) cm → Step env.locals W W₂ → UL W₂ D xs → W.h.get? D = none → wpAny (model prog w) A (execs rest env) Q E { s with heap := W₂.h, toks := tk }) :
    wpAny (model prog w) A (execs (.Assign [.Name x px] e pos :: rest) env) Q E { s with heap := W.h, toks := t0 } := st_assignN0 (s := { s with heap := W.h, toks := t0 }) F rfl he hx hp hsw k
theorem Wld.Le.none {W W' : Wld g} (l : W.Le W') {D : Addr} (h : W'.h.get? D = none) : W.h.get? D = none := by
  cases z : W.h.get? D with
  | none => rfl
  | some o => obtain ⟨o', z'⟩ := l.there z; rw [h] at z'; cases z'
/- a comprehension under a local's name -/
theorem st_comp0 {elt : Expr} {gens : List Comprehension} {scope : Scope} {cpos : Pos} {cl : List (Str × Addr)} {iter : Expr} {ifs : List Expr} {more : List Comprehension} {vs : List Str} {x : Str} {px : Pos} {xs : List PyData} (out : PyData → List PyData) (rst : Addr → Addr → Addr → Sem Fin)
    {y : Str} {py pos : Pos} (F : FS B W env own m cm) (hs : s.heap = W.h) (hy : env.kindOf y = some .local) (hp : (env.scope.kind == .class || (env.scope.kind == .module && env.locals != env.globals)) = false)
    (hsw : swapsWith (.ListComp elt gens scope cpos) (some (.Name y py)) pos.line env = pure true)
    (hg : gens = ⟨.Name x px, iter, ifs, 0⟩ :: more) (hfold : ∀ x, foldedSetIterable iter env x = pure x)
    (hclos : closureFor scope env = pure cl) (hkind : scope.kind = .function) (hnames : ∀ y ∈ scope.names, y.2 = .local → scope.names.lookup y.1 = some .local)
    (hown : ∀ C, ∃ own, Own scope C own ∧ Var (cEnv scope cl C env) own vs x)
    (hit : Ev prog w A (eval iter env) W (Src prog w A xs))
    (htree : ∀ I D C, compTurn (.ListComp elt gens scope cpos) 0 (.ref I) (.ref D) (cEnv scope cl C env) = (standAt iter.pos >>= fun _ => pyNext (.ref I) >>= fun r => match r with
      | none => pure (.done .next)
      | some v => letOwnedTupleGo (.Name x px) (.ref I) v >>= fun _ => assign (.Name x px) (cEnv scope cl C env) v >>= fun _ => rst I D C))
    (turn : ∀ (W₀ W' : Wld g) (own : List Addr) (I D C : Addr) (i : Nat) y v ys m' cm' (s : Shared) (E : Value → Shared → Prop), W.Le W₀ → Own scope C own → xs[i]? = some y → ys = (xs.take i).flatMap out → IsV W'.F v y →
      CI W₀ W' (cEnv scope cl C env) own D m' cm' ys → Nm W'.h (cEnv scope cl C env) x v → s.heap = W'.h →
      wpAny (model prog w) A (rst I D C) (TurnPost W₀ W' (cEnv scope cl C env) own D vs m' s (.compLoop (.ListComp elt gens scope cpos) 0 (.ref I) (.ref D) (cEnv scope cl C env)) (ys ++ out y)) E s)
    (k : ∀ (W₂ : Wld g) D tk, FS B W₂ env own (upd m y (.ref D)) cm → Step env.locals W W₂ → UL W₂ D (xs.flatMap out) → W.h.get? D = none → wpAny (model prog w) A (execs rest env) Q E { s with heap := W₂.h, toks := tk }) :
    wpAny (model prog w) A (execs (.Assign [.Name y py] (.ListComp elt gens scope cpos) pos :: rest) env) Q E s := by
  refine wpAny_execs_cons ?_
  rw [exec_Assign_Name_used _ _ _ _ hsw]
  refine wpAny_bind (wpAny_standAt (wpAny_bind ?_))
  rw [arm_evalThenUse_ListComp]
  dsimp only
  refine wpAny_bind ?_
  have main := comp_core (prog := prog) (w := w) (A := A) (use := some (assign (.Name y py) env)) (p' := firstIterPos gens cpos) (E := E) (Q := fun _ s' => wpAny (model prog w) A (execs rest env) Q E s') out rst hg hfold hclos hkind hnames hown hit htree turn (.refl W) hs (fun W₀ W₃ own' D C m' cm' tk₃ l₀ C₃ => ?_)
  · exact wpAny_mono main (fun _ s' h => wpAny_pure (wpAny_pure h)) fun _ _ e => e
  · show wpAny (model prog w) A (assign (.Name y py) env (.ref D)) _ E _
    have F₃ := (F.up l₀).up C₃.le
    refine wpAny_assign_Name (F₃.store (s := { s with heap := W₃.h, toks := tk₃ }) rfl hy hp fun W₄ tk₄ F₄ st hF => ?_)
    obtain ⟨oL, eL, dL, loL⟩ := ns_dct F₃.loc
    have hLC : env.locals ≠ C := fun q => by
      obtain ⟨o, e⟩ := (⟨_, eL⟩ : ∃ o, W₃.h.get? env.locals = some o)
      obtain ⟨oL0, eL0, _⟩ := ns_dct (F.up l₀).loc
      have := C₃.loc0
      rw [show (cEnv scope cl C env).locals = C from rfl, ← q, eL0] at this
      cases this
    obtain ⟨oC, eC, dC, loC⟩ := ns_dct C₃.loc
    have eC4 : W₄.h.get? C = some oC := st.so.kp C oC eC (.inr ⟨dC, Ne.symm hLC⟩)
    have fC4 : W₄.F C = none := by rw [hF]; exact C₃.locF
    refine ⟨m', ?_, fun h' hsb => ?_⟩
    · obtain ⟨o, es, ep, e, d, r⟩ := C₃.loc
      have eq : oC = o := Option.some.inj (eC.symm.trans e)
      subst eq
      exact ⟨oC, es, ep, eC4, d, r⟩
    · have kp : ∀ b p, b ≠ C → W₄.h.get? b = some p → h'.get? b = some p := fun b p hb e => hsb.extBut b p hb e
      obtain ⟨vs', n, e, q⟩ := C₃.acc
      have c0 : W₀.h.get? C = none := C₃.loc0
      have b0 : B.h.get? C = none := ((F.up l₀).le).none c0
      have nf : ¬ ∃ vs, oC.data = .fields vs := by rintro ⟨vs, q⟩; obtain ⟨es, n, d⟩ := dC; rw [d] at q; cases q
      have F₅ : FS B (W₄.set C h' eC4 loC fC4 kp) env own (upd m y (.ref D)) cm := F₄.but eC4 (.inr (Ne.symm hLC)) (fun v q => by obtain ⟨es, n, d⟩ := dC; rw [d] at q; cases q) b0 rfl kp
      have sl3 : UL W₃ D (xs.flatMap out) := ⟨vs', n, e, C₃.accF, q⟩
      have sl4 := sl3.soft st.so
      have low : ∀ b o, W₀.h.get? b = some o → b ≠ C := fun b o e q => by subst q; rw [c0] at e; cases e
      have sp : Step env.locals W (W₄.set C h' eC4 loC fC4 kp) := by
        have s1 : Step env.locals W₀ W₄ := (Step.of_le C₃.le).trans st
        have s0 : Step env.locals W W₀ := Step.of_le l₀
        refine s0.trans ⟨⟨s1.so.fz, fun b o e m => kp b o (low b o e) (s1.so.kp b o e m), fun b o e m f => s1.so.off b o e m f⟩, ⟨s1.ha.fz, fun b o e m => kp b o (low b o e) (s1.ha.kp b o e m), fun b o e m f => s1.ha.off b o e m f⟩⟩
      obtain ⟨vs4, n4, e4, f4, q4⟩ := sl4
      have hDC : D ≠ C := fun q => by subst q; rw [eC4] at e4; cases e4; obtain ⟨es, n, d⟩ := dC; cases d
      exact k (W₄.set C h' eC4 loC fC4 kp) D tk₄ F₅ sp ⟨vs4, n4, kp _ _ hDC e4, f4, q4⟩ (l₀.none C₃.acc0)
theorem st_comp {t0 : Nat} {elt : Expr} {gens : List Comprehension} {scope : Scope} {cpos : Pos} {cl : List (Str × Addr)} {iter : Expr} {ifs : List Expr} {more : List Comprehension} {vs : List Str} {x : Str} {px : Pos} {xs : List PyData} (out : PyData → List PyData) (rst : Addr → Addr → Addr → Sem Fin)
    {y : Str} {py pos : Pos} (F : FS B W env own m cm) (_hs : W.h = W.h) (hy : env.kindOf y = some .local) (hp : (env.scope.kind == .class || (env.scope.kind == .module && env.locals != env.globals)) = false)
    (hsw : swapsWith (.ListComp elt gens scope cpos) (some (.Name y py)) pos.line env = pure true)
    (hg : gens = ⟨.Name x px, iter, ifs, 0⟩ :: more) (hfold : ∀ x, foldedSetIterable iter env x = pure x)
    (hclos : closureFor scope env = pure cl) (hkind : scope.kind = .function) (hnames : ∀ y ∈ scope.names, y.2 = .local → scope.names.lookup y.1 = some .local)
    (hown : ∀ C, ∃ own, Own scope C own ∧ Var (cEnv scope cl C env) own vs x)
    (hit : Ev prog w A (eval iter env) W (Src prog w A xs))
    (htree : ∀ I D C, compTurn (.ListComp elt gens scope cpos) 0 (.ref I) (.ref D) (cEnv scope cl C env) = (standAt iter.pos >>= fun _ => pyNext (.ref I) >>= fun r => match r with
      | none => pure (.done .next)
      | some v => letOwnedTupleGo (.Name x px) (.ref I) v >>= fun _ => assign (.Name x px) (cEnv scope cl C env) v >>= fun _ => rst I D C))
    (turn : ∀ (W₀ W' : Wld g) (own : List Addr) (I D C : Addr) (i : Nat) y v ys m' cm' (s : Shared) (E : Value → Shared → Prop), W.Le W₀ → Own scope C own → xs[i]? = some y → ys = (xs.take i).flatMap out → IsV W'.F v y →
      CI W₀ W' (cEnv scope cl C env) own D m' cm' ys → Nm W'.h (cEnv scope cl C env) x v → s.heap = W'.h →
      wpAny (model prog w) A (rst I D C) (TurnPost W₀ W' (cEnv scope cl C env) own D vs m' s (.compLoop (.ListComp elt gens scope cpos) 0 (.ref I) (.ref D) (cEnv scope cl C env)) (ys ++ out y)) E s)
    (k : ∀ (W₂ : Wld g) D tk, FS B W₂ env own (upd m y (.ref D)) cm → Step env.locals W W₂ → UL W₂ D (xs.flatMap out) → W.h.get? D = none → wpAny (model prog w) A (execs rest env) Q E { s with heap := W₂.h, toks := tk }) :
    wpAny (model prog w) A (execs (.Assign [.Name y py] (.ListComp elt gens scope cpos) pos :: rest) env) Q E { s with heap := W.h, toks := t0 } := st_comp0 (s := { s with heap := W.h, toks := t0 }) out rst F rfl hy hp hsw hg hfold hclos hkind hnames hown hit htree turn k
end
end Mine
namespace Mine
section
variable {g : Heap} {prog : Program} {w : World} {A : Around} {B W W' : Wld g} {env : Env} {own : List Addr} {m : Str → Option Value} {cm : Addr → Option Value} {s : Shared} {Q : Flow → Shared → Prop} {E : Value → Shared → Prop} {rest : List Stmt}

/- an iterable that is frozen, or a range -/
noncomputable def SrcF (prog : Program) (w : World) (A : Around) (xs : List PyData) : Wld g → Value → Prop := fun W xv =>
  ∀ (s : Shared) (Q : Value → Shared → Prop) (E : Value → Shared → Prop), s.heap = W.h →
    (∀ I fp P St h', Itr prog w A I fp xs.length P St → (∀ b ∈ fp, b = I ∨ ∃ o, W.F b = some o) → (∀ i v, P i v → ∃ x, xs[i]? = some x ∧ IsV W.F v x) → St 0 h' → (∀ b o, s.heap.get? b = some o → h'.get? b = some o) → s.heap.get? I = none → Q (.ref I) { s with heap := h' }) →
    wpAny (model prog w) A (pyIter xv) Q E s
theorem srcF_list (hh : A.handled = none) {xs : List PyData} {xv : Value} (h : IsV W.F xv (.list xs)) : SrcF prog w A xs W xv := by
  cases h with
  | @list a o vs n _ hF hc hd q =>
  intro s Q E hs k
  have hl' : s.heap.IsList a vs := by rw [hs]; exact ⟨o, W.inn _ _ hF, hc, n, hd⟩
  have hlt : a < s.heap.objs.size := by obtain ⟨_, e, _⟩ := hl'; exact Heap.lt_size e
  refine wpAny_pyIter_list hl' ?_
  have len : vs.size = xs.length := by have := q.length; simpa using this
  have Wk := Walks.list (prog := prog) (w := w) hh s.heap.objs.size a (Nat.ne_of_lt hlt) vs
  rw [len] at Wk
  refine k s.heap.objs.size [s.heap.objs.size, a] _ _ _ ⟨Wk, ?_, ?_⟩ ?_ ?_ ⟨⟨_, Heap.get?_push_size _ rfl, rfl, rfl⟩, hl'.push _⟩ (fun b o e => Heap.get?_push_of_some _ e) ?_
  · rintro i h ⟨⟨o, e, c, d⟩, _⟩
    exact ⟨o, e, .inr ⟨_, c, by decide⟩, _, d⟩
  · rintro i h ⟨⟨o, e, c, _⟩, ⟨o', e', c', _⟩⟩ b hb
    rcases List.mem_cons.mp hb with rfl | hb
    · exact ⟨o, e, .inr ⟨_, c⟩⟩
    · rw [List.mem_singleton.mp hb]; exact ⟨o', e', .inr ⟨_, c'⟩⟩
  · intro b hb
    rcases List.mem_cons.mp hb with rfl | hb
    · exact .inl rfl
    · rw [List.mem_singleton.mp hb]; exact .inr ⟨_, hF⟩
  · intro i v hv
    exact q.get' i (by simpa using hv)
  · rw [hs]; exact W.new_none (Nat.le_refl _)
theorem srcF_range (hh : A.handled = none) {a b : Int} {n : Nat} {xv : Value} (h : Rg a b W xv) (hsm : Builtin.Range.small a b 1 = true) (hn : Builtin.Range.rangeSize a b 1 = (n : Int)) : SrcF prog w A (rng a n) W xv := by
  intro s Q E hs k
  rw [rng_len] at k
  refine iter_range hh h hsm hn hs fun I P St h' J hP st kp hI => k I [I] P St h' J (fun b hb => .inl (List.mem_singleton.mp hb)) (fun i v hv => ?_) st kp hI
  obtain ⟨x, hx, hF⟩ := hP i v hv
  exact ⟨x, hx, hF _⟩

/- the same, the iterator told fresh against an earlier world -/
noncomputable def SrcI (prog : Program) (w : World) (A : Around) (xs : List PyData) (W0 : Wld g) : Wld g → Value → Prop := fun W xv =>
  ∀ (s : Shared) (Q : Value → Shared → Prop) (E : Value → Shared → Prop), s.heap = W.h →
    (∀ I fp P St h', Itr prog w A I fp xs.length P St → (∀ b ∈ fp, b = I ∨ ∃ o, W.F b = some o) → (∀ i v, P i v → ∃ x, xs[i]? = some x ∧ IsV W.F v x) → St 0 h' → (∀ b o, s.heap.get? b = some o → h'.get? b = some o) → W0.h.get? I = none → W.F I = none → Q (.ref I) { s with heap := h' }) →
    wpAny (model prog w) A (pyIter xv) Q E s
theorem Itr.castn {I : Addr} {fp : List Addr} {n n' : Nat} {P : Nat → Value → Prop} {St : Nat → Heap → Prop} (J : Itr prog w A I fp n P St) (e : n = n') : Itr prog w A I fp n' P St := e ▸ J
theorem SrcF.i {xs : List PyData} {v : Value} (l : W.Le W') (h : SrcF prog w A xs W' v) : SrcI prog w A xs W W' v := fun s Q E hs k =>
  h s Q E hs fun I fp P St h' J hfp hP st kp hI => k I fp P St h' J hfp hP st kp (l.none (by rw [← hs]; exact hI)) (Wld.F_none (by rw [← hs]; exact hI))
/- where a statement's target stands -/
inductive Tgt (env : Env) (own : List Addr) (x : Str) (c? : Option Addr) : Prop
  | loc : c? = none → env.kindOf x = some .local → (env.scope.kind == .class || (env.scope.kind == .module && env.locals != env.globals)) = false → Tgt env own x c?
  | cel (c : Addr) : c? = some c → env.kindOf x = some .cell → env.cells.lookup x = some c → c ∈ own → Tgt env own x c?
theorem FS.assign (F : FS B W env own m cm) {x : Str} {px : Pos} {v : Value} {c? : Option Addr} (hs : s.heap = W.h) {Q : Unit → Shared → Prop} (hk : env.scope.kind = .function) (T : Tgt env own x c?)
    (k : ∀ (W' : Wld g) tk m' cm', FS B W' env own m' cm' → (∀ z, z ≠ x → m' z = m z) → (∀ c, c? ≠ some c → cm' c = cm c) → Nm W'.h env x v → Step env.locals W W' → W'.F = W.F → Q () { s with heap := W'.h, toks := tk }) :
    wpAny (model prog w) A (assign (.Name x px) env v) Q E s := by
  refine wpAny_assign_Name ?_
  cases T with
  | loc _ hx hp => exact F.store hs hx hp fun W' tk F' st hF => k W' tk _ cm F' (fun z hz => upd_ne hz) (fun _ _ => rfl) (F'.nm hx upd_at) st hF
  | cel c e hx hc ho => exact F.storeC hs hk hx hc ho fun W' tk F' st hF => k W' tk m _ F' (fun _ _ => rfl) (fun c' h => upd_ne fun q => h (by rw [e, q])) (F'.nmC hx hc ho upd_at) st hF

noncomputable def ForPost (B W : Wld g) (env : Env) (own : List Addr) (s : Shared) (Q : Flow → Shared → Prop) (Inv : Wld g → (Str → Option Value) → (Addr → Option Value) → Prop) (f : Flow) (s' : Shared) : Prop :=
  match f with
  | .next => ∃ (W' : Wld g) (m' : Str → Option Value) (cm' : Addr → Option Value) (tk : Nat), s' = { s with heap := W'.h, toks := tk } ∧ FS B W' env own m' cm' ∧ Inv W' m' cm' ∧ Hard W W'
  | .ret v => Q (.ret v) s'
  | _ => False

theorem st_forI0 {x : Str} {px pos : Pos} {iter : Expr} {body : List Stmt} {xs : List PyData} {c? : Option Addr} (Inv : Nat → Wld g → (Str → Option Value) → (Addr → Option Value) → Prop)
    (F : FS B W env own m cm) (hs : s.heap = W.h) (hk : env.scope.kind = .function) (T : Tgt env own x c?) (hit : Ev prog w A (eval iter env) W (SrcI prog w A xs W)) (h0 : ∀ W', W.Le W' → Inv 0 W' m cm)
    (soft : ∀ i (W₁ W₂ : Wld g) m₁ cm₁ m₂ cm₂, Soft env.locals W₁ W₂ → (∀ z, z ≠ x → m₂ z = m₁ z) → (∀ c, c? ≠ some c → cm₂ c = cm₁ c) → Inv i W₁ m₁ cm₁ → Inv i W₂ m₂ cm₂)
    (turn : ∀ i y v (W' : Wld g) m' cm' tk (E' : Value → Shared → Prop), xs[i]? = some y → IsV W'.F v y → FS B W' env own m' cm' → Inv i W' m' cm' → Nm W'.h env x v →
      wpAny (model prog w) A (execs body env) (ForPost B W' env own { s with heap := W'.h, toks := tk } Q (Inv (i + 1))) E' { s with heap := W'.h, toks := tk })
    (done : ∀ (W' : Wld g) m' cm' tk, FS B W' env own m' cm' → Inv xs.length W' m' cm' → wpAny (model prog w) A (execs rest env) Q E { s with heap := W'.h, toks := tk })
    (hfold : ∀ x, foldedSetIterable iter env x = pure x) :
    wpAny (model prog w) A (execs (.For (.Name x px) iter body [] pos :: rest) env) Q E s := by
  refine wpAny_execs_cons (wpAny_For (hit W (.refl _) s hs _ _ fun W₀ tk₀ xv l₀ src => src _ _ _ rfl fun I fp P St h' J hfp hP st kp hI0 hIF0 => ?_) hfold)
  dsimp only at kp ⊢
  let W₁ := W₀.grow h' kp
  have l₁ : W₀.Le W₁ := W₀.grow_le h' kp
  have b0 : B.h.get? I = none := F.le.none hI0
  have F₁ := (F.up l₀).up l₁
  refine codeAny_forLoop (fun k s' => ∃ (i : Nat) (W' : Wld g) (m' : Str → Option Value) (cm' : Addr → Option Value) (tk : Nat), s' = { s with heap := W'.h, toks := tk } ∧ i ≤ xs.length ∧ k = xs.length + 1 - i ∧ FS B W' env own m' cm' ∧ Inv i W' m' cm' ∧ St i W'.h ∧ W'.F I = none ∧ (∀ a o, W₁.F a = some o → W'.F a = some o)) ?_ (xs.length + 1)
    ⟨0, W₁, m, cm, tk₀, rfl, Nat.zero_le _, rfl, F₁, h0 _ (l₀.trans l₁), st, hIF0, fun _ _ e => e⟩
  rintro k s' ⟨i, W', m', cm', tk, rfl, hi, rfl, F', inv, st', hIF, fz⟩
  obtain ⟨oI, eI, loI, fI⟩ := J.ob _ _ st'
  have nS : ¬ isSeq oI := by rintro ⟨vs, n, d⟩; obtain ⟨vs', d'⟩ := fI; rw [d'] at d; cases d
  have nD : ¬ isDct oI := by rintro ⟨vs, n, d⟩; obtain ⟨vs', d'⟩ := fI; rw [d'] at d; cases d
  have nC : ∀ v, oI.data ≠ .cell v := by intro v d; obtain ⟨vs', d'⟩ := fI; rw [d'] at d; cases d
  by_cases hlt : i < xs.length
  · refine J.next (W := W') hlt rfl st' hIF fun W₂ v tk₂ hPv st₂ hF₂ kp₂ => ?_
    obtain ⟨y, hy, iv⟩ := hP i v hPv
    have F₂ := F'.but eI (.inl nD) nC b0 hF₂ kp₂
    have so₂ : Soft env.locals W' W₂ := Soft.but eI nS (fun q => nD q.1) hF₂ kp₂
    refine F₂.assign (s := { s with heap := W₂.h, toks := tk₂ }) rfl hk T fun W₃ tk₃ m₃ cm₃ F₃ hm₃ hc₃ nm₃ sp₃ hF₃ => ?_
    have inv₃ : Inv i W₃ m₃ cm₃ := soft i W' W₃ _ _ _ _ (so₂.trans sp₃.so) hm₃ hc₃ inv
    have fz₃ : ∀ a o, W₁.F a = some o → W₃.F a = some o := fun a o e => by rw [hF₃, hF₂]; exact fz a o e
    refine wpAny_mono (turn i y v W₃ m₃ cm₃ tk₃ _ hy (iv.mono fz₃) F₃ inv₃ nm₃) (fun f s' h' => ?_) fun _ _ e => e
    cases f with
    | next =>
      obtain ⟨W₄, m₄, cm₄, tk₄, rfl, F₄, inv₄, ha₄⟩ := h'
      obtain ⟨o₂, e₂, _, f₂⟩ := J.ob _ _ st₂
      have mI : movable o₂ := by obtain ⟨o', e', mo⟩ := J.fm _ _ st₂ I (J.wk.sub I (List.mem_singleton.mpr rfl)); rw [e₂] at e'; cases e'; exact mo
      have e₃ : W₃.h.get? I = some o₂ := sp₃.ha.kp I o₂ e₂ ⟨mI, f₂⟩
      have f₃ : W₃.F I = none := by rw [hF₃, hF₂]; exact hIF
      have st₄ : St (i + 1) W₄.h := J.wk.frame (i + 1) _ _ st₂ fun b hb o e => by
        rcases hfp b hb with q | ⟨ob, eb⟩
        · subst q
          rw [e₂] at e; cases e
          exact ha₄.kp b _ e₃ ⟨mI, f₂⟩
        · have e5 := W₂.inn b ob (by rw [hF₂]; exact fz b ob eb)
          rw [e5] at e; cases e
          exact W₄.inn b _ (ha₄.fz b _ (fz₃ b _ eb))
      exact ⟨xs.length + 1 - (i + 1), by omega, i + 1, W₄, m₄, cm₄, tk₄, rfl, hlt, rfl, F₄, inv₄, st₄, ha₄.off I o₂ e₃ ⟨mI, f₂⟩ f₃, fun a o e => ha₄.fz a o (fz₃ a o e)⟩
    | brk => exact h'.elim
    | cont => exact h'.elim
    | ret v => exact h'
  · have hin : i = xs.length := by lia
    subst hin
    refine J.stop (W := W') rfl st' hIF fun W₂ tk₂ hF₂ kp₂ => ?_
    have F₂ := F'.but eI (.inl nD) nC b0 hF₂ kp₂
    have so₂ : Soft env.locals W' W₂ := Soft.but eI nS (fun q => nD q.1) hF₂ kp₂
    exact wpAny_execs_nil (done W₂ m' cm' tk₂ F₂ (soft _ W' W₂ _ _ _ _ so₂ (fun _ _ => rfl) (fun _ _ => rfl) inv))
theorem st_forI {t0 : Nat} {x : Str} {px pos : Pos} {iter : Expr} {body : List Stmt} {xs : List PyData} {c? : Option Addr} (Inv : Nat → Wld g → (Str → Option Value) → (Addr → Option Value) → Prop)
    (F : FS B W env own m cm) (_hs : W.h = W.h) (hk : env.scope.kind = .function) (T : Tgt env own x c?) (hit : Ev prog w A (eval iter env) W (SrcI prog w A xs W)) (h0 : ∀ W', W.Le W' → Inv 0 W' m cm)
    (soft : ∀ i (W₁ W₂ : Wld g) m₁ cm₁ m₂ cm₂, Soft env.locals W₁ W₂ → (∀ z, z ≠ x → m₂ z = m₁ z) → (∀ c, c? ≠ some c → cm₂ c = cm₁ c) → Inv i W₁ m₁ cm₁ → Inv i W₂ m₂ cm₂)
    (turn : ∀ i y v (W' : Wld g) m' cm' tk (E' : Value → Shared → Prop) (Q' : Flow → Shared → Prop), xs[i]? = some y → IsV W'.F v y → FS B W' env own m' cm' → Inv i W' m' cm' → Nm W'.h env x v → (∀ f s', ForPost B W' env own { s with heap := W'.h, toks := tk } Q (Inv (i + 1)) f s' → Q' f s') →
      wpAny (model prog w) A (execs body env) Q' E' { s with heap := W'.h, toks := tk })
    (done : ∀ (W' : Wld g) m' cm' tk, FS B W' env own m' cm' → Inv xs.length W' m' cm' → wpAny (model prog w) A (execs rest env) Q E { s with heap := W'.h, toks := tk })
    (hfold : ∀ x, foldedSetIterable iter env x = pure x) :
    wpAny (model prog w) A (execs (.For (.Name x px) iter body [] pos :: rest) env) Q E { s with heap := W.h, toks := t0 } := st_forI0 (s := { s with heap := W.h, toks := t0 }) Inv F rfl hk T hit h0 soft (fun i y v W' m' cm' tk E' h1 h2 h3 h4 h5 => turn i y v W' m' cm' tk E' _ h1 h2 h3 h4 h5 fun _ _ h => h) done hfold
theorem st_for0 {x : Str} {px pos : Pos} {iter : Expr} {body : List Stmt} {xs : List PyData} {c? : Option Addr} (Inv : Nat → Wld g → (Str → Option Value) → (Addr → Option Value) → Prop)
    (F : FS B W env own m cm) (hs : s.heap = W.h) (hk : env.scope.kind = .function) (T : Tgt env own x c?) (hit : Ev prog w A (eval iter env) W (SrcF prog w A xs)) (h0 : ∀ W', W.Le W' → Inv 0 W' m cm)
    (soft : ∀ i (W₁ W₂ : Wld g) m₁ cm₁ m₂ cm₂, Soft env.locals W₁ W₂ → (∀ z, z ≠ x → m₂ z = m₁ z) → (∀ c, c? ≠ some c → cm₂ c = cm₁ c) → Inv i W₁ m₁ cm₁ → Inv i W₂ m₂ cm₂)
    (turn : ∀ i y v (W' : Wld g) m' cm' tk (E' : Value → Shared → Prop), xs[i]? = some y → IsV W'.F v y → FS B W' env own m' cm' → Inv i W' m' cm' → Nm W'.h env x v →
      wpAny (model prog w) A (execs body env) (ForPost B W' env own { s with heap := W'.h, toks := tk } Q (Inv (i + 1))) E' { s with heap := W'.h, toks := tk })
    (done : ∀ (W' : Wld g) m' cm' tk, FS B W' env own m' cm' → Inv xs.length W' m' cm' → wpAny (model prog w) A (execs rest env) Q E { s with heap := W'.h, toks := tk })
    (hfold : ∀ x, foldedSetIterable iter env x = pure x) :
    wpAny (model prog w) A (execs (.For (.Name x px) iter body [] pos :: rest) env) Q E s :=
  st_forI0 Inv F hs hk T (hit.mono fun W' v l p => p.i l) h0 soft turn done hfold
theorem st_for {t0 : Nat} {x : Str} {px pos : Pos} {iter : Expr} {body : List Stmt} {xs : List PyData} {c? : Option Addr} (Inv : Nat → Wld g → (Str → Option Value) → (Addr → Option Value) → Prop)
    (F : FS B W env own m cm) (_hs : W.h = W.h) (hk : env.scope.kind = .function) (T : Tgt env own x c?) (hit : Ev prog w A (eval iter env) W (SrcF prog w A xs)) (h0 : ∀ W', W.Le W' → Inv 0 W' m cm)
    (soft : ∀ i (W₁ W₂ : Wld g) m₁ cm₁ m₂ cm₂, Soft env.locals W₁ W₂ → (∀ z, z ≠ x → m₂ z = m₁ z) → (∀ c, c? ≠ some c → cm₂ c = cm₁ c) → Inv i W₁ m₁ cm₁ → Inv i W₂ m₂ cm₂)
    (turn : ∀ i y v (W' : Wld g) m' cm' tk (E' : Value → Shared → Prop) (Q' : Flow → Shared → Prop), xs[i]? = some y → IsV W'.F v y → FS B W' env own m' cm' → Inv i W' m' cm' → Nm W'.h env x v → (∀ f s', ForPost B W' env own { s with heap := W'.h, toks := tk } Q (Inv (i + 1)) f s' → Q' f s') →
      wpAny (model prog w) A (execs body env) Q' E' { s with heap := W'.h, toks := tk })
    (done : ∀ (W' : Wld g) m' cm' tk, FS B W' env own m' cm' → Inv xs.length W' m' cm' → wpAny (model prog w) A (execs rest env) Q E { s with heap := W'.h, toks := tk })
    (hfold : ∀ x, foldedSetIterable iter env x = pure x) :
    wpAny (model prog w) A (execs (.For (.Name x px) iter body [] pos :: rest) env) Q E { s with heap := W.h, toks := t0 } := st_for0 (s := { s with heap := W.h, toks := t0 }) Inv F rfl hk T hit h0 soft (fun i y v W' m' cm' tk E' h1 h2 h3 h4 h5 => turn i y v W' m' cm' tk E' _ h1 h2 h3 h4 h5 fun _ _ h => h) done hfold
/- for x in reversed(xs) -/
theorem srcI_rev (hh : A.handled = none) {v : Value} {xs : List PyData} (h : IsV W.F v (.list xs)) : Ev prog w A (call (.type "reversed") [v]) W (SrcI prog w A xs.reverse W) := by
  intro W' l s hs Q E k
  cases h.le l with
  | @list a o vs n _ hF hc hd q =>
  have hl : s.heap.IsList a vs := by rw [hs]; exact ⟨o, W'.inn _ _ hF, hc, n, hd⟩
  refine PySem.call_reversed_list hl ?_
  obtain ⟨W₁, e1, l1, eF, e2, h0⟩ := Wld.push_new hs (PySem.revObj a ((vs.size : Int) - 1)) rfl
  have z := k W₁ s.toks (.ref s.heap.objs.size) l1 ?_
  · rw [e1] at z; exact z
  intro s₂ Q₂ E₂ hs₂ k₂
  have len : vs.size = xs.length := by have := q.length; simpa using this
  have hit : s₂.heap.IsRevIter s.heap.objs.size a ((vs.size : Int) - 1) := by rw [hs₂]; exact ⟨_, e2, rfl, rfl⟩
  have hl₂ : s₂.heap.IsList a vs := by rw [hs₂]; exact ⟨o, l1.mv (W'.inn _ _ hF) (.inr ⟨_, hc⟩), hc, n, hd⟩
  have hlt : a ≠ s.heap.objs.size := Nat.ne_of_lt (by obtain ⟨_, e, _⟩ := hl; exact Heap.lt_size e)
  have Wk := (Walks.listRev (prog := prog) (w := w) hh s.heap.objs.size a hlt vs).bound
  have J : Itr prog w A s.heap.objs.size [s.heap.objs.size, a] vs.size _ _ := ⟨Wk, fun i h st => by
      obtain ⟨_, ⟨o, e, c, d⟩, _⟩ := st
      exact ⟨o, e, .inr ⟨_, c, by decide⟩, _, d⟩, fun i h st b hb => by
      obtain ⟨_, ⟨o, e, c, _⟩, ⟨o', e', c', _⟩⟩ := st
      rcases List.mem_cons.mp hb with rfl | hb
      · exact ⟨o, e, .inr ⟨_, c⟩⟩
      · rw [List.mem_singleton.mp hb]; exact ⟨o', e', .inr ⟨_, c'⟩⟩⟩
  refine wpAny_pyIter_revIter hit (k₂ s.heap.objs.size [s.heap.objs.size, a] _ _ s₂.heap (J.castn (by rw [List.length_reverse, len])) ?_ ?_ ⟨Nat.zero_le _, by simpa using hit, hl₂⟩ (fun b o e => e) (l.none h0) (by rw [eF]; exact Wld.F_none h0))
  · intro b hb
    rcases List.mem_cons.mp hb with rfl | hb
    · exact .inl rfl
    · rw [List.mem_singleton.mp hb]; exact .inr ⟨_, l1.fz _ _ hF⟩
  · intro i v hv
    obtain ⟨hi, hv⟩ := hv
    obtain ⟨x, hx, ix⟩ := q.get' (vs.size - 1 - i) (v := v) (by simpa using hv)
    refine ⟨x, ?_, ix.le l1⟩
    rw [List.getElem?_reverse (by lia), ← len]
    exact hx
/- a comprehension of one clause under a local's name -/
theorem st_comp10 {elt : Expr} {scope : Scope} {cpos : Pos} {cl : List (Str × Addr)} {iter : Expr} {ifs : List Expr} {x : Str} {px : Pos} {xs : List PyData} (p : PyData → Bool) (f : PyData → PyData)
    {y : Str} {py pos : Pos} (F : FS B W env own m cm) (hs : s.heap = W.h) (hy : env.kindOf y = some .local) (hp : (env.scope.kind == .class || (env.scope.kind == .module && env.locals != env.globals)) = false)
    (hsw : swapsWith (.ListComp elt [⟨.Name x px, iter, ifs, 0⟩] scope cpos) (some (.Name y py)) pos.line env = pure true)
    (hfold : ∀ x, foldedSetIterable iter env x = pure x)
    (hclos : closureFor scope env = pure cl) (hkind : scope.kind = .function) (hnames : ∀ y ∈ scope.names, y.2 = .local → scope.names.lookup y.1 = some .local)
    (hown : ∀ C, ∃ own, Own scope C own ∧ Var (cEnv scope cl C env) own [x] x)
    (hit : Ev prog w A (eval iter env) W (Src prog w A xs)) (hlen : xs.length ≤ sizeLine)
    (body : ∀ y ∈ xs, ∀ (W' : Wld g) C v, W.Le W' → IsV W'.F v y → Nm W'.h (cEnv scope cl C env) x v → Tsts prog w A (cEnv scope cl C env) ifs W' (p y) ∧ (p y = true → Ex prog w A (cEnv scope cl C env) elt W' (V (f y))))
    (k : ∀ (W₂ : Wld g) D tk, FS B W₂ env own (upd m y (.ref D)) cm → Step env.locals W W₂ → UL W₂ D ((xs.filter p).map f) → W.h.get? D = none → wpAny (model prog w) A (execs rest env) Q E { s with heap := W₂.h, toks := tk }) :
    wpAny (model prog w) A (execs (.Assign [.Name y py] (.ListComp elt [⟨.Name x px, iter, ifs, 0⟩] scope cpos) pos :: rest) env) Q E s := by
  refine st_comp0 (vs := [x]) (fun y => if p y then [f y] else []) (fun I D C => do
        let ok ← tests ifs (cEnv scope cl C env)
        if ok then
          (do let _ ← call (.builtin "list.append") [.ref D, ← eval elt (cEnv scope cl C env)])
        again (.compLoop (.ListComp elt [⟨.Name x px, iter, ifs, 0⟩] scope cpos) 0 (.ref I) (.ref D) (cEnv scope cl C env))) F hs hy hp hsw rfl hfold hclos hkind hnames hown hit (fun I D C => compTurn_last rfl rfl) ?_ (fun W₂ D tk F₂ sp u h0 => k W₂ D tk F₂ sp (by rw [← flatMap_if]; exact u) h0)
  intro W₀ W' own' I D C i y v ys m' cm' s E l₀ hOwn hy hys hv C' nm hs
  obtain ⟨ht, he⟩ := body y (List.mem_of_getElem? hy) W' C v (l₀.trans C'.le) hv nm
  refine turn_emit hs C' ht he ?_
  rw [hys]
  refine Nat.le_trans (flatMap_if_len p f _) ?_
  rw [List.length_take]
  lia
theorem st_comp1 {t0 : Nat} {elt : Expr} {scope : Scope} {cpos : Pos} {cl : List (Str × Addr)} {iter : Expr} {ifs : List Expr} {x : Str} {px : Pos} {xs : List PyData} (p : PyData → Bool) (f : PyData → PyData)
    {y : Str} {py pos : Pos} (F : FS B W env own m cm) (_hs : W.h = W.h) (hy : env.kindOf y = some .local) (hp : (env.scope.kind == .class || (env.scope.kind == .module && env.locals != env.globals)) = false)
    (hsw : swapsWith (.ListComp elt [⟨.Name x px, iter, ifs, 0⟩] scope cpos) (some (.Name y py)) pos.line env = pure true)
    (hfold : ∀ x, foldedSetIterable iter env x = pure x)
    (hclos : closureFor scope env = pure cl) (hkind : scope.kind = .function) (hnames : ∀ y ∈ scope.names, y.2 = .local → scope.names.lookup y.1 = some .local)
    (hown : ∀ C, ∃ own, Own scope C own ∧ Var (cEnv scope cl C env) own [x] x)
    (hit : Ev prog w A (eval iter env) W (Src prog w A xs)) (hlen : xs.length ≤ sizeLine)
    (body : ∀ y ∈ xs, ∀ (W' : Wld g) C v, W.Le W' → IsV W'.F v y → Nm W'.h (cEnv scope cl C env) x v → Tsts prog w A (cEnv scope cl C env) ifs W' (p y) ∧ (p y = true → Ex prog w A (cEnv scope cl C env) elt W' (V (f y))))
    (k : ∀ (W₂ : Wld g) D tk, FS B W₂ env own (upd m y (.ref D)) cm → Step env.locals W W₂ → UL W₂ D ((xs.filter p).map f) → W.h.get? D = none → wpAny (model prog w) A (execs rest env) Q E { s with heap := W₂.h, toks := tk }) :
    wpAny (model prog w) A (execs (.Assign [.Name y py] (.ListComp elt [⟨.Name x px, iter, ifs, 0⟩] scope cpos) pos :: rest) env) Q E { s with heap := W.h, toks := t0 } := st_comp10 (s := { s with heap := W.h, toks := t0 }) p f F rfl hy hp hsw hfold hclos hkind hnames hown hit hlen body k
end
end Mine
namespace Mine

theorem ev_range1I {g : Heap} {prog : Program} {w : World} {A : Around} {W : Wld g} {F : Fz} {n : Int} {a : Value} (p : IsV F a (.int n)) : Ev prog w A (call (.type "range") [a]) W (Rg 0 n) := by
  obtain ⟨t, rfl⟩ := p.intI
  exact ev_range1
theorem ev_range2I {g : Heap} {prog : Program} {w : World} {A : Around} {W : Wld g} {F F' : Fz} {n k : Int} {a b : Value} (p : IsV F a (.int n)) (q : IsV F' b (.int k)) : Ev prog w A (call (.type "range") [a, b]) W (Rg n k) := by
  obtain ⟨t, rfl⟩ := p.intI
  obtain ⟨u, rfl⟩ := q.intI
  exact ev_range2
theorem m2_1 {L : Addr} : L + 1 ∈ [L + 2, L + 1] := .tail _ (.head _)
theorem m2_2 {L : Addr} : L + 2 ∈ [L + 2, L + 1] := .head _
theorem m3_1 {L : Addr} : L + 1 ∈ [L + 3, L + 2, L + 1] := .tail _ m2_1
theorem m3_2 {L : Addr} : L + 2 ∈ [L + 3, L + 2, L + 1] := .tail _ m2_2
theorem m3_3 {L : Addr} : L + 3 ∈ [L + 3, L + 2, L + 1] := .head _
theorem m5_1 {L : Addr} : L + 1 ∈ [L + 5, L + 4, L + 3, L + 2, L + 1] := .tail _ (.tail _ m3_1)
theorem m5_2 {L : Addr} : L + 2 ∈ [L + 5, L + 4, L + 3, L + 2, L + 1] := .tail _ (.tail _ m3_2)
theorem m5_3 {L : Addr} : L + 3 ∈ [L + 5, L + 4, L + 3, L + 2, L + 1] := .tail _ (.tail _ m3_3)
theorem m5_4 {L : Addr} : L + 4 ∈ [L + 5, L + 4, L + 3, L + 2, L + 1] := .tail _ (.head _)
theorem m5_5 {L : Addr} : L + 5 ∈ [L + 5, L + 4, L + 3, L + 2, L + 1] := .head _
noncomputable def bodyOf : Stmt → List Stmt
  | .FunctionDef _ _ b _ _ _ _ _ _ _ => b
  | _ => []
noncomputable def scopeOf : Stmt → Scope
  | .FunctionDef _ _ _ _ _ _ sc _ _ _ => sc
  | _ => default
noncomputable def paramsOf : Stmt → Arguments
  | .FunctionDef _ p _ _ _ _ _ _ _ _ => p
  | _ => default
noncomputable def fdef (n : Nat) : Stmt := (Challenge.pw_hv0003_01.main.body)[n]?.getD (.Pass ⟨0, 0, 0, 0⟩)

/- what is asked of the surroundings, n calls deep -/
structure Ok (n : Nat) (A : Around) : Prop where
  hh : A.handled = none
  dp : A.depth + n < recursionLimit
  un : A.units + 8 * n + 400 < cLine
theorem Ok.deeper {n : Nat} {A : Around} {env : Env} (o : Ok (n + 1) A) : Ok n (A.deeper env) :=
  ⟨o.hh, by show A.depth + 1 + n < _; have := o.dp; lia, by show A.units + 3 + 8 * n + 400 < _; have := o.un; lia⟩

/- what stands at the top -/
structure Gd (g : Heap) (mg mb : Str → Option Value) : Prop where
  G : g.Ns mainGlobals mg
  B : g.Ns builtinsNs mb
  bs : ∀ n : Str, n ≠ ("__name__" : Str) → mb n = bootBuiltins n
  nl : g.NoLimit
  bm : ∃ bm ob, mg "__builtins__" = some (.ref bm) ∧ bm ≠ builtinsNs ∧ g.get? bm = some ob ∧ ob.cls = .type "module" ∧ ob.dict = some builtinsNs ∧ ob.data = .plain

noncomputable def LI (r : List Int) : PyData := .list (r.map .int)
noncomputable def TI (r : List Int) : PyData := .tuple (r.map .int)
noncomputable def onI (f : Int → PyData) : PyData → PyData
  | .int k => f k
  | _ => .none
noncomputable def toI : PyData → Int
  | .int k => k
  | _ => 0
noncomputable def onL (f : List Int → PyData) : PyData → PyData
  | .list xs => f (xs.map toI)
  | _ => .none
theorem toI_map (r : List Int) : (r.map PyData.int).map toI = r := by
  induction r with
  | nil => rfl
  | cons x xs ih => rw [List.map_cons, List.map_cons, ih]; rfl
theorem onL_LI (f : List Int → PyData) (r : List Int) : onL f (LI r) = f r := by
  show f ((r.map PyData.int).map toI) = f r
  rw [toI_map]

section
variable {g : Heap} {prog : Program} {w : World} {A : Around} {W : Wld g} {env : Env} {mg mb : Str → Option Value}
theorem Gd.builtin (H : Gd g mg mb) {n : Str} {v : Value} {pos : Pos} (hk : env.scope.kind = .function) (hg : env.globals = mainGlobals) (hbn : env.builtins = builtinsNs) (hx : env.kindOf n = some .globalImplicit) (hm : mg n = none)
    (hn : n ≠ ("__name__" : Str)) (hv : bootBuiltins n = some v) (hd : (n == ("__debug__" : Str)) = false) : Ex prog w A env (.Name n pos) W fun _ v' => v' = v :=
  ex_builtin hk hg hbn hx H.G hm H.B ((H.bs n hn).trans hv) hd
end
section
variable {g : Heap} {prog : Program} {w : World} {A : Around} {W : Wld g} {env : Env} {elt : Expr} {scope : Scope} {pos : Pos}
theorem Ev.srcL (hh : A.handled = none) {t : Sem Value} {xs : List PyData} (h : Ev prog w A t W (SL xs)) : Ev prog w A t W (Src prog w A xs) := h.mono fun _ _ _ p => src_list hh p
theorem Ev.srcV (hh : A.handled = none) {t : Sem Value} {xs : List PyData} (h : Ev prog w A t W (V (.list xs))) : Ev prog w A t W (Src prog w A xs) := h.sl.srcL hh
theorem Ev.srcT (hh : A.handled = none) {t : Sem Value} {xs : List PyData} (h : Ev prog w A t W (V (.tuple xs))) : Ev prog w A t W (Src prog w A xs) := h.mono fun _ _ _ p => src_tuple hh p.st
theorem Ev.srcR (hh : A.handled = none) {t : Sem Value} {a b : Int} {n : Nat} (h : Ev prog w A t W (Rg a b)) (hsm : Builtin.Range.small a b 1 = true) (hn : Builtin.Range.rangeSize a b 1 = (n : Int)) : Ev prog w A t W (Src prog w A (rng a n)) := h.mono fun _ _ _ p => src_range hh p hsm hn
theorem evn_map {cl : List (Str × Addr)} {iter : Expr} {x : Str} {px : Pos} {xs : List PyData} (f : PyData → PyData)
    (hfold : ∀ x, foldedSetIterable iter env x = pure x) (hclos : closureFor scope env = pure cl) (hkind : scope.kind = .function) (hnames : ∀ y ∈ scope.names, y.2 = .local → scope.names.lookup y.1 = some .local)
    (hown : ∀ C, ∃ own, Own scope C own ∧ Var (cEnv scope cl C env) own [x] x)
    (hit : Ev prog w A (eval iter env) W (Src prog w A xs)) (hlen : xs.length ≤ sizeLine)
    (body : ∀ y ∈ xs, ∀ (W' : Wld g) C v, W.Le W' → IsV W'.F v y → Nm W'.h (cEnv scope cl C env) x v → Ex prog w A (cEnv scope cl C env) elt W' (V (f y))) :
    EvN prog w A (eval (.ListComp elt [⟨.Name x px, iter, [], 0⟩] scope pos) env) W (xs.map f) := by
  have e : xs.map f = (xs.filter fun _ => true).map f := by rw [List.filter_eq_self.mpr (fun _ _ => rfl)]
  rw [e]
  exact evn_comp1 (fun _ => true) f hfold hclos hkind hnames hown hit hlen fun y hy W' C v l iv nm => ⟨tsts_nil, fun _ => body y hy W' C v l iv nm⟩
theorem EvN.cast {t : Sem Value} {xs ys : List PyData} (h : EvN prog w A t W xs) (e : xs = ys) : EvN prog w A t W ys := e ▸ h
theorem mem_rng {a : Int} {n : Nat} {y : PyData} (h : y ∈ rng a n) : ∃ k : Int, y = .int k ∧ a ≤ k ∧ k < a + n := by
  unfold rng at h
  obtain ⟨i, hi, rfl⟩ := List.mem_map.mp h
  have := List.mem_range.mp hi
  exact ⟨_, rfl, by lia, by lia⟩
theorem rng_map {a : Int} {n : Nat} (f : Int → PyData) : (rng a n).map (onI f) = (List.range n).map fun (i : Nat) => f (a + (i : Int)) := by
  unfold rng
  rw [List.map_map]
  rfl
theorem Ev.in1 {α : Type} {t : Sem α} {P : Wld g → α → Prop} (h : Ev prog w A t W P) : Ev prog w A t W P := h
theorem nm_free {h : Heap} {n : Str} {v : Value} {env' : Env} {c : Addr} (x : h.IsCell c (some v)) (hk : env'.kindOf n = some .cell ∨ env'.kindOf n = some .free) (hc : env'.cells.lookup n = some c) : Nm h env' n v := .inr ⟨hk, c, hc, x⟩
theorem Nm.cell {h : Heap} {n : Str} {v : Value} {env : Env} {c : Addr} (x : Nm h env n v) (hc : env.cells.lookup n = some c) (hk : env.kindOf n = some .cell) : h.IsCell c (some v) := by
  rcases x with ⟨k, _⟩ | ⟨_, c', hc', ic⟩
  · rw [hk] at k; cases k
  · rw [hc] at hc'; cases hc'; exact ic
theorem IsCell.le {W W' : Wld g} (l : W.Le W') {c : Addr} {v : Option Value} (x : W.h.IsCell c v) : W'.h.IsCell c v := by
  obtain ⟨o, e, d⟩ := x
  exact ⟨o, l.mv e (.inl fun vs q => by rw [d] at q; cases q), d⟩
end
section
variable {g : Heap} {prog : Program} {w : World} {A : Around} {B W : Wld g} {mg mb : Str → Option Value}

noncomputable def dot (r v : List Int) : Int := ([0, 1, 2].map fun k => r.getD k 0 * v.getD k 0).sum
noncomputable def madeOf (T : List (List Int)) (v : List Int) (p : Int) : List Int := T.map fun r => (dot r v).fmod p

theorem small_bits {x : Int} (h : x.natAbs < 1000) : Builtin.Int.intBits x ≤ 64 := intBits_le_64 (by omega) (by omega)
theorem getD_small {r : List Int} {k : Nat} (h : ∀ x ∈ r, x.natAbs < 1000) : (r.getD k 0).natAbs < 1000 := by
  rw [List.getD_eq_getElem?_getD]
  cases q : r[k]? with
  | none => decide
  | some x => exact h x (List.mem_of_getElem? q)
noncomputable def madeSc : Scope := scopeOf (fdef 13)
noncomputable def madeEnv (L a : Addr) (cd : Value) : Env := envOfC "_law_made" madeSc L a cd

theorem made_body {L a : Addr} {cd : Value} {s : Shared} {m : Str → Option Value} {cm : Addr → Option Value} {Q : Flow → Shared → Prop} {E : Value → Shared → Prop} {rows : List (List Int)} {v : List Int} {p : Int} {vt vr vp : Value}
    (H : Gd g mg mb) (hA : Ok 1 A) (hs : s.heap = W.h) (F : FS B W (madeEnv L a cd) [L + 2, L + 1] m cm)
    (hm1 : m "table" = some vt) (hc1 : cm (L + 1) = some vr) (hc2 : cm (L + 2) = some vp)
    (it : IsV W.F vt (.list (rows.map LI))) (ir : IsV W.F vr (TI v)) (ip : IsV W.F vp (.int p)) (hp : p ≠ 0) (hlen : ∀ r ∈ rows, r.length = 3) (hv : v.length = 3) (hsz : ∀ r ∈ rows, ∀ x ∈ r, x.natAbs < 1000) (hsv : ∀ x ∈ v, x.natAbs < 1000) (hn : rows.length < 1000)
    (hmt : mg "tuple" = none) (hms : mg "sum" = none) (hmr : mg "range" = none)
    (k : ∀ (W' : Wld g) v' tk, W.Le W' → IsV W'.F v' (TI (madeOf rows v p)) → Q (.ret v') { s with heap := W'.h, toks := tk }) :
    wpAny (model prog w) A (execs (bodyOf (fdef 13)) (madeEnv L a cd)) Q E s := by
  refine wp_norm hs ?_
  refine st_return rfl (P := V (TI (madeOf rows v p))) ?_ (fun W' v' tk l p => k W' v' tk l p)
  refine ex_call1 (H.builtin (hd := by decide) rfl rfl rfl (by rfl) hmt (by decide) (by decide +kernel)) rfl rfl (P₁ := SL ((madeOf rows v p).map .int)) ?_ (fun W₁ a l₁ p₁ => ev_tupleOf p₁ (by rw [List.length_map]; unfold madeOf; rw [List.length_map]; exact Nat.le_trans (Nat.le_of_lt hn) (by decide)))
  refine EvN.sl ?_
  have key : (rows.map LI).map (onL fun r => .int ((dot r v).fmod p)) = (madeOf rows v p).map .int := by
    rw [List.map_map]
    unfold madeOf
    rw [List.map_map]
    refine List.map_congr_left fun r hr => ?_
    show onL _ (LI r) = _
    rw [onL_LI]; rfl
  refine EvN.cast ?_ key
  refine evn_map (onL fun r => .int ((dot r v).fmod p)) (fun _ => rfl) (by with_unfolding_all rfl) rfl (by decide) (fun C => ⟨[C + 1], .one "one" (fun _ _ => rfl) (fun _ => rfl), .cel (C + 1) (by rfl) (by rfl) (List.mem_singleton_self _)⟩)
    ((ex_var (h1 := by decide) (h2 := by decide) rfl (F.nm (by rfl) hm1) it).srcV hA.hh) (by rw [List.length_map]; exact Nat.le_trans (Nat.le_of_lt hn) (by decide)) fun y hy W' C vy l iv nm => ?_
  obtain ⟨r, hr, rfl⟩ := List.mem_map.mp hy
  rw [onL_LI]
  refine ex_binop_int (a := dot r v) (b := p) ?_ (ex_var (h1 := by decide) (h2 := by decide) rfl (nm_free (c := L + 2) (hc2 ▸ (F.up l).cl (L + 2) (by first | exact m5_1 | exact m5_2 | exact m5_3 | exact m5_4 | exact m5_5 | exact m3_1 | exact m3_2 | exact m3_3 | exact m2_1 | exact m2_2 | exact List.mem_singleton_self _ | simp)).1 (.inl (by rfl)) (by rfl)) (ip.le l)) (fun t u s Q E nl h => mod_int' hp h) H.nl
  refine ex_call1 (H.builtin (hd := by decide) rfl rfl rfl (by rfl) hms (by decide) (by decide +kernel)) rfl rfl (P₁ := SL (([0, 1, 2].map fun k => r.getD k 0 * v.getD k 0).map .int)) ?_ (fun W₁ a l₁ p₁ => ev_sum (src_list (A := A.in1) hA.hh p₁) fun W₂ l₂ => src_list (A := A.in1) hA.hh (p₁.le l₂))
  refine EvN.sl ?_
  have key2 : (rng 0 3).map (onI fun k => .int (r.getD k.toNat 0 * v.getD k.toNat 0)) = (([0, 1, 2].map fun k => r.getD k 0 * v.getD k 0).map PyData.int) := by
    rw [rng_map]; rfl
  refine EvN.cast ?_ key2
  refine evn_map _ (fun _ => rfl) (by with_unfolding_all rfl) rfl (by decide) (fun C => ⟨[], .nil (fun _ _ => rfl) (fun _ => rfl), .loc (by rfl) (by rfl) (List.mem_singleton_self _)⟩)
    (Ev.srcR (n := 3) hA.hh (ex_call1 (f := .type "range") (H.builtin (hd := by decide) rfl rfl rfl (by rfl) hmr (by decide) (by decide +kernel)) rfl rfl ex_int (fun W₁ a l₁ p₁ => ev_range1I p₁)) (by decide) (by decide)) (by rw [rng_len]; decide) fun y hy W₂ C₂ vk l₂ ik nmk => ?_
  obtain ⟨kk, rfl, h0, h3⟩ := mem_rng hy
  have hk3 : kk.toNat < 3 := by lia
  have hrl := hlen r hr
  refine ex_binop_int (a := r.getD kk.toNat 0) (b := v.getD kk.toNat 0) ?_ ?_ (fun t u s Q E nl h => P.mul_int h (IntMulOk.of_left (small_bits (getD_small (hsz r hr))))) H.nl
  · refine ex_item (hsub := by intro _ _; with_unfolding_all rfl) (xs := r.map .int) (k := kk) (ex_var (h1 := by decide) (h2 := by decide) rfl (nm_free (c := C + 1) (IsCell.le l₂ (nm.cell (by rfl) (by rfl))) (.inl (by rfl)) (by rfl)) (iv.le l₂)).sl (ex_var (h1 := by decide) (h2 := by decide) rfl nmk ik) h0 (by lia) ?_
    rw [List.getElem?_map, List.getD_eq_getElem?_getD, List.getElem?_eq_getElem (by lia)]; rfl
  · refine ex_itemT (hsub := by intro _ _; with_unfolding_all rfl) (xs := v.map .int) (k := kk) ((ex_var (h1 := by decide) (h2 := by decide) rfl (nm_free (c := L + 1) (IsCell.le l₂ (hc1 ▸ (F.up l).cl (L + 1) (by first | exact m5_1 | exact m5_2 | exact m5_3 | exact m5_4 | exact m5_5 | exact m3_1 | exact m3_2 | exact m3_3 | exact m2_1 | exact m2_2 | exact List.mem_singleton_self _ | simp)).1) (.inl (by rfl)) (by rfl)) ((ir.le l).le l₂)).mono fun _ _ _ p => p.st) (ex_var (h1 := by decide) (h2 := by decide) rfl nmk ik) h0 (by lia) ?_
    rw [List.getElem?_map, List.getD_eq_getElem?_getD, List.getElem?_eq_getElem (by lia)]; rfl
end
end Mine
namespace Mine
/- a def of the text, as its object stands -/
noncomputable def FnAt (g : Heap) (a : Addr) (name : Str) (st : Stmt) (cd : Value) : Prop :=
  (∃ o pm doc, g.get? a = some o ∧ o.data = .func (Calls.docDef name (paramsOf st) (bodyOf st) (scopeOf st) pm cd doc)) ∧ g.CodeRec cd name
noncomputable def cmA (cs : List (Str × Addr)) (cm : Str → Option Value) : Addr → Option Value := fun c => match cs.find? (fun p => p.2 == c) with
  | some p => cm p.1
  | none => none
theorem cmA_at {cs : List (Str × Addr)} {cm : Str → Option Value} (ap : cs.Pairwise fun x y => x.2 ≠ y.2) {n : Str} {c : Addr} (h : cs.lookup n = some c) : cmA cs cm c = cm n := by
  unfold cmA
  have hm := mem_of_lookup h
  cases q : cs.find? (fun p => p.2 == c) with
  | none =>
    have := List.find?_eq_none.mp q (n, c) hm
    simp at this
  | some p =>
    have h1 := List.mem_of_find?_eq_some q
    have h2 : p.2 = c := by have := List.find?_some q; simpa using this
    obtain ⟨n', c'⟩ := p
    subst h2
    have : n' = n := name_of_addr ap h1 hm
    subst this
    rfl
section
variable {g : Heap} {prog : Program} {w : World} {A : Around} {B W : Wld g} {mg mb : Str → Option Value}

theorem ev_def {n : Nat} {name : Str} {st : Stmt} {a : Addr} {cd : Value} {args : List Value} {P : Wld g → Value → Prop} {binds : List (Str × Value)} (hA : Ok (n + 1) A) (fn : FnAt g a name st cd) (nl : g.NoLimit)
    (hbind : ∀ pm doc, bindArgs (Calls.docDef name (paramsOf st) (bodyOf st) (scopeOf st) pm cd doc) ⟨args, []⟩ = pure binds)
    (hkind : ∀ L : Addr, ∀ x ∈ binds, (scopeOf st).names.lookup x.1 = some .local ∨ ((scopeOf st).names.lookup x.1 = some .cell ∧ ((cellsFrom (L + 1) (scopeOf st).names []).lookup x.1).isSome = true))
    (hlk : ∀ L : Addr, ∀ p ∈ cellsFrom (L + 1) (scopeOf st).names [], (cellsFrom (L + 1) (scopeOf st).names []).lookup p.1 = some p.2)
    (body : ∀ (B W₁ : Wld g) (L : Addr) (m : Str → Option Value) (cm : Addr → Option Value) (s : Shared) (Q : Flow → Shared → Prop) (E : Value → Shared → Prop), W.Le B → B.Le W₁ → s.heap = W₁.h →
      FS B W₁ (envOfC name (scopeOf st) L a cd) ((cellsFrom (L + 1) (scopeOf st).names []).map (·.2)) m cm →
      (∀ x, m x = bindL (envOfC name (scopeOf st) L a cd).kindOf binds (fun _ => none) x) →
      (∀ x c, (cellsFrom (L + 1) (scopeOf st).names []).lookup x = some c → cm c = bindC (envOfC name (scopeOf st) L a cd).kindOf binds (fun _ => none) x) →
      (∀ (W' : Wld g) v tk, B.Le W' → P W' v → Q (.ret v) { s with heap := W'.h, toks := tk }) →
      wpAny (model prog w) (A.deeper (envOfC name (scopeOf st) L a cd)) (execs (bodyOf st) (envOfC name (scopeOf st) L a cd)) Q E s)
    (hco : (scopeOf st).isCoroutine = false) (hgen : (scopeOf st).isGenerator = false) (hk : (scopeOf st).kind = .function) :
    Ev prog w A (call (.ref a) args) W P := by
  intro W' lw s hs Q E k
  obtain ⟨⟨o, pm, doc, ho, hd⟩, hcd⟩ := fn
  have up : ∀ b o, g.get? b = some o → s.heap.get? b = some o := fun b o e => by rw [hs]; exact W'.old e
  refine wpAny_call (call_cells_ret (name := name) (params := paramsOf st) (body := bodyOf st) (scope := scopeOf st) (pm := pm) (cd := cd) (doc := doc) (a := a) (o := o) (binds := binds)
    (by have := hA.dp; lia) (up _ _ ho) hd (nl.keeps up) (hcd.keeps up) (hbind pm doc) (hkind _) (fun h₁ tk F X => ?_) hco hgen hk)
  have kp : ∀ b o, W'.h.get? b = some o → h₁.get? b = some o := fun b o e => F.keep b o (by rw [hs]; exact e)
  let W₁ := W'.grow h₁ kp
  have l₁ : W'.Le W₁ := W'.grow_le h₁ kp
  have out : ∀ b, s.heap.objs.size ≤ b → W'.h.get? b = none := fun b hb => W'.new_none (by rw [← hs]; exact hb)
  have FF : FS W' W₁ (envOfC name (scopeOf st) s.heap.objs.size a cd) ((cellsFrom (s.heap.objs.size + 1) (scopeOf st).names []).map (·.2)) (bindL (envOfC name (scopeOf st) s.heap.objs.size a cd).kindOf binds fun _ => none)
      (cmA (cellsFrom (s.heap.objs.size + 1) (scopeOf st).names []) (bindC (envOfC name (scopeOf st) s.heap.objs.size a cd).kindOf binds fun _ => none)) := by
    refine ⟨l₁, F.ns, Wld.F_none (W := W') (out _ (Nat.le_refl _)), out _ (Nat.le_refl _), fun c hc => ?_⟩
    obtain ⟨p, hp, rfl⟩ := List.mem_map.mp hc
    have lk := hlk _ p hp
    have lt := X.above p.1 p.2 hp
    rw [cmA_at X.apart lk]
    exact ⟨X.cell _ _ lk, Wld.F_none (W := W') (out _ (Nat.le_of_lt lt)), out _ (Nat.le_of_lt lt)⟩
  refine body W' W₁ s.heap.objs.size _ _ { s with heap := h₁, toks := tk } _ _ lw l₁ rfl FF (fun _ => rfl) (fun x c hx => cmA_at X.apart hx) fun W₂ v tk₂ l₂ p => ?_
  exact k W₂ tk₂ v l₂ p

theorem made_call {a : Addr} {cd : Value} {rows : List (List Int)} {v : List Int} {p : Int} {vt vr vp : Value} (H : Gd g mg mb) (hA : Ok 2 A) (fn : FnAt g a "_law_made" (fdef 13) cd)
    (it : IsV W.F vt (.list (rows.map LI))) (ir : IsV W.F vr (TI v)) (ip : IsV W.F vp (.int p)) (hp : p ≠ 0) (hlen : ∀ r ∈ rows, r.length = 3) (hv : v.length = 3) (hsz : ∀ r ∈ rows, ∀ x ∈ r, x.natAbs < 1000) (hsv : ∀ x ∈ v, x.natAbs < 1000) (hn : rows.length < 1000)
    (hmt : mg "tuple" = none) (hms : mg "sum" = none) (hmr : mg "range" = none) : Ev prog w A (call (.ref a) [vt, vr, vp]) W (V (TI (madeOf rows v p))) := by
  refine ev_def (hco := by rfl) (hgen := by rfl) (hk := by rfl) (n := 1) (binds := [("table", vt), ("row", vr), ("prime", vp)]) hA fn H.nl (fun _ _ => by rfl) (fun L => ?_) (fun L => ?_) fun B W₁ L m cm s Q E lB lW hs F hm hc k => ?_
  · exact List.forall_mem_cons.mpr ⟨.inl (by rfl), List.forall_mem_cons.mpr ⟨.inr ⟨by rfl, by rfl⟩, List.forall_mem_cons.mpr ⟨.inr ⟨by rfl, by rfl⟩, fun _ h => nomatch h⟩⟩⟩
  · exact List.forall_mem_cons.mpr ⟨by rfl, List.forall_mem_cons.mpr ⟨by rfl, fun _ h => nomatch h⟩⟩
  · exact made_body (L := L) (a := a) (cd := cd) H hA.deeper hs F ((hm _).trans (by rfl)) ((hc "row" (L + 1) (by rfl)).trans (by rfl)) ((hc "prime" (L + 2) (by rfl)).trans (by rfl))
      (it.le (lB.trans lW)) (ir.le (lB.trans lW)) (ip.le (lB.trans lW)) hp hlen hv hsz hsv hn hmt hms hmr fun W' v' tk l p => k W' v' tk (lW.trans l) p
end
end Mine
namespace Mine
open PySem.SeqAt PySem.MeetsSeq
open PySem.AutoSeq1 (wpAny_loadPart')

theorem remove_loopAt (l : Addr) (items : Array Value) (n : Nat) (x : Value) (e : Value → Bool) (j : Nat) (hj : j < items.size) (hit : e items[j] = true) (k : Nat) (hs1 : items.size ≤ sizeLine) :
    ∀ i : Nat, j - i = k → i ≤ j → (∀ m (hm : m < items.size), i ≤ m → m < j → e items[m] = false) → Meets (Builtin.«list.remove.loop» ⟨[.ref l, x, rawInt i], []⟩)
      (fun A R s => s.heap.get? l = some { cls := .type "list", dict := none, data := .seq items n, slots := #[] } ∧ (∀ y, y ∈ items → EqAt A.in1 s y x (e y)) ∧ R (.ok (.ret .none)) { s with heap := s.heap.update l (Obj.mapSeq fun xs => xs.eraseIdxIfInBounds j) }) := by
  induction k with
  | zero =>
    intro i hk hij hno prog w A R s h
    obtain ⟨hp, g, d, tk, os⟩ := s; obtain ⟨hl, he, h⟩ := h
    have hij' : i = j := by lia
    subst hij'
    wp_walk using wpAny_loadPart' hl
    have hi : items[((i : Nat) : Int).toNat]? = some items[i] := by simp [hj]
    rw [hi]
    refine wpAny_bind (he _ (Array.getElem_mem hj) prog w _ _ ?_)
    rw [hit]
    have hz' : (items.eraseIdxIfInBounds i).size ≤ sizeLine + 1 := Nat.le_trans (size_erased items _) (Nat.le_succ_of_le hs1)
    wp_walk using (wpAny_updateSeq hl rfl (hz := hs1) (_hz' := hz')), wpAny_loadPart' hl
    simpa using h
  | succ k ih =>
    intro i hk hij hno prog w A R s h
    obtain ⟨hp, g, d, tk, os⟩ := s; obtain ⟨hl, he, h⟩ := h
    have hlt : i < items.size := by lia
    wp_walk using wpAny_loadPart' hl
    have hi : items[((i : Nat) : Int).toNat]? = some items[i] := by simp [hlt]
    have hc : ((i : Int) + 1) = ((i + 1 : Nat) : Int) := by push_cast; rfl
    rw [hi]
    refine wpAny_bind (he _ (Array.getElem_mem hlt) prog w _ _ ?_)
    rw [hno i hlt (Nat.le_refl _) (by omega)]
    wp_walk
    rw [hc]
    exact ⟨plainId_quiet plain_remove_loop _, codeAny_builtin entry_remove_loop (by
      rw [Around.under_plainId plain_remove_loop _]
      exact ih (i + 1) (by omega) (by lia) (fun m hm h1 h2 => hno m hm (by lia) h2) prog w A R _ ⟨hl, he, h⟩)⟩
theorem list_removeAt (l : Addr) (items : Array Value) (n : Nat) (x : Value) (e : Value → Bool) (j : Nat) (hj : j < items.size)
    (hit : e items[j] = true) (hno : ∀ m (hm : m < items.size), m < j → e items[m] = false) (hs1 : items.size ≤ sizeLine) :
    Meets (Builtin.«list.remove» ⟨[.ref l, x], []⟩)
      (fun A R s => s.heap.get? l = some { cls := .type "list", dict := none, data := .seq items n, slots := #[] } ∧ (∀ y, y ∈ items → EqAt A.in1 s y x (e y)) ∧ R (.ok (.ret .none)) { s with heap := s.heap.update l (Obj.mapSeq fun xs => xs.eraseIdxIfInBounds j) }) := by
  intro prog w A R s h
  obtain ⟨hp, g, d, tk, os⟩ := s; obtain ⟨hl, he, h⟩ := h
  wp_walk using wpAny_loadPart' hl
  exact ⟨plainId_quiet plain_remove_loop _, codeAny_builtin entry_remove_loop (by
    rw [Around.under_plainId plain_remove_loop _]
    exact remove_loopAt l items n x e j hj hit _ hs1 0 rfl (Nat.zero_le _) (fun m hm _ h2 => hno m hm h2) prog w A R _ ⟨hl, he, h⟩)⟩

section
variable {g : Heap} {prog : Program} {w : World} {A : Around} {B W W' : Wld g} {env : Env} {own : List Addr} {m : Str → Option Value} {cm : Addr → Option Value} {s : Shared} {Q : Flow → Shared → Prop} {E : Value → Shared → Prop} {rest : List Stmt}

theorem IsVs.mem {F : Fz} {vs ds} (q : IsVs F vs ds) : ∀ v ∈ vs, ∃ d ∈ ds, IsV F v d :=
  q.ind (P := fun vs ds => ∀ v ∈ vs, ∃ d ∈ ds, IsV F v d) (fun _ h => nomatch h) fun a _ r v h =>
    (List.mem_cons.mp h).elim (fun e => ⟨_, .head _, e ▸ a⟩) fun h => (r v h).elim fun d q => ⟨d, .tail _ q.1, q.2⟩
theorem IsVs.erase {F : Fz} {vs ds} (q : IsVs F vs ds) : ∀ j : Nat, IsVs F (vs.eraseIdx j) (ds.eraseIdx j) :=
  q.ind (P := fun vs ds => ∀ j : Nat, IsVs F (vs.eraseIdx j) (ds.eraseIdx j)) (fun _ => .nil) fun a b r j => Nat.casesOn j b fun j => .cons a (r j)
/- xs.remove(v): the first item equal to it goes -/
theorem wp_remove0 {D : Addr} {xs : List PyData} {v : Value} {y : PyData} {j : Nat} {Q : Value → Shared → Prop} (U : UL W D xs) (hv : IsV W.F v y) (hj : xs[j]? = some y) (hno : ∀ i x, i < j → xs[i]? = some x → x ≠ y)
    {n : Nat} (hn : n ≤ 60) (hp : ∀ x ∈ xs, pl n x = true) (hu : A.units + 100 < cLine) (hlen : xs.length ≤ sizeLine) (hs : s.heap = W.h)
    (k : ∀ (W' : Wld g) tk, UL W' D (xs.eraseIdx j) → W'.F = W.F → (∀ b o, b ≠ D → W.h.get? b = some o → W'.h.get? b = some o) → Q .none { s with heap := W'.h, toks := tk }) :
    wpAny (model prog w) A (call (.builtin "list.remove") [.ref D, v]) Q E s := by
  obtain ⟨vs, c, e, f, q⟩ := U
  have len : vs.size = xs.length := by have := q.length; simpa using this
  have hy : y ∈ xs := List.mem_of_getElem? hj
  have hjl : j < xs.length := by
    rcases Nat.lt_or_ge j xs.length with h | h
    · exact h
    · rw [List.getElem?_eq_none h] at hj; cases hj
  -- the equalities
  have eqs : ∀ u, u ∈ vs → ∃ d ∈ xs, IsV W.F u d := fun u hu => q.mem u (by simpa using hu)
  classical
  let ef : Value → Bool := fun u => decide (IsV W.F u y)
  have uniq : ∀ u d, IsV W.F u d → pl n d = true → IsV W.F u y → d = y := fun u d i1 hp1 i2 => by
    obtain ⟨as, r1⟩ := i1.reads W.inn
    obtain ⟨bs, r2⟩ := i2.reads W.inn
    exact Reads.unique d y u as bs (canLay_of_shaped (pl_shaped hp1 (by lia))) r1 r2
  have he : ∀ u, u ∈ vs → EqAt A.in1 s u v (ef u) := fun u hu' => by
    obtain ⟨d, hd, iv⟩ := eqs u hu'
    obtain ⟨as, r1⟩ := iv.reads W.inn
    obtain ⟨bs, r2⟩ := hv.reads W.inn
    have s1 := pl_shaped (hp d hd) (by lia)
    have s2 := pl_shaped (hp y hy) (by lia)
    have er : PyData.eqv d y = ef u := by
      have iff1 := pl_eqv n d y n (hp d hd) (hp y hy)
      by_cases hdy : d = y
      · rw [iff1.mpr hdy]
        exact (decide_eq_true (hdy ▸ iv)).symm
      · have h1 : PyData.eqv d y = false := by
          cases h : PyData.eqv d y with
          | false => rfl
          | true => exact absurd (iff1.mp h) hdy
        rw [h1]
        exact (decide_eq_false fun i2 => hdy (uniq u d iv (hp d hd) i2)).symm
    rw [← er]
    have d1 := depth_of_shaped s1
    refine eqAt_reads d y A.in1 s u v as bs (hs ▸ r1) (hs ▸ r2) (canLay_of_shaped s1) (canLay_of_shaped s2) ?_
    have : min d.depth y.depth ≤ d.depth := Nat.min_le_left _ _
    show A.units + 1 + _ < cLine
    lia
  have hjs : j < vs.size := by lia
  obtain ⟨vj, hvj, ivj⟩ := q.get j hj
  have evj : vs[j] = vj := by
    have : vs.toList[j]? = some vs[j] := by simp [hjs]
    rw [this] at hvj; exact Option.some.inj hvj
  have hit : ef vs[j] = true := decide_eq_true (evj ▸ ivj)
  have hno' : ∀ i (hi : i < vs.size), i < j → ef vs[i] = false := fun i hi hij => by
    obtain ⟨d, hd, iv⟩ := q.get' i (v := vs[i]) (by simp [hi])
    exact decide_eq_false fun i2 => hno i d hij hd (uniq _ d iv (hp d (List.mem_of_getElem? hd)) i2)
  have ho : s.heap.get? D = some { cls := .type "list", data := .seq vs c } := by rw [hs]; exact e
  refine call_meets F.slot_list_remove ⟨_, ho, rfl⟩ F.entry_list_remove (F.args_list_remove_2 _ _) (list_removeAt D vs c v ef j hjs hit hno' (by lia)) ⟨ho, he, ?_⟩
  have kp : ∀ b o, b ≠ D → W.h.get? b = some o → (s.heap.update D (Obj.mapSeq fun xs => xs.eraseIdxIfInBounds j)).get? b = some o := fun b o hb e => by
    rw [Heap.get?_update_other _ _ (Ne.symm hb), hs]; exact e
  refine k (W.set D _ e (.inr ⟨_, rfl, by decide⟩) f kp) s.toks ⟨vs.eraseIdxIfInBounds j, _, Heap.get?_update_self _ ho rfl, f, ?_⟩ rfl kp
  have et : (vs.eraseIdxIfInBounds j).toList = vs.toList.eraseIdx j := by
    unfold Array.eraseIdxIfInBounds
    rw [dif_pos hjs]
    simp
  show IsVs W.F _ _
  rw [et]
  exact q.erase j

theorem wp_remove {t0 : Nat} {D : Addr} {xs : List PyData} {v : Value} {y : PyData} {j : Nat} {Q : Value → Shared → Prop} (U : UL W D xs) (hv : IsV W.F v y) (hj : xs[j]? = some y) (hno : ∀ i x, i < j → xs[i]? = some x → x ≠ y)
    {n : Nat} (hn : n ≤ 60) (hp : ∀ x ∈ xs, pl n x = true) (hu : A.units + 100 < cLine) (hlen : xs.length ≤ sizeLine) (_hs : W.h = W.h)
    (k : ∀ (W' : Wld g) tk, UL W' D (xs.eraseIdx j) → W'.F = W.F → (∀ b o, b ≠ D → W.h.get? b = some o → W'.h.get? b = some o) → Q .none { s with heap := W'.h, toks := tk }) :
    wpAny (model prog w) A (call (.builtin "list.remove") [.ref D, v]) Q E { s with heap := W.h, toks := t0 } := wp_remove0 (s := { s with heap := W.h, toks := t0 }) U hv hj hno hn hp hu hlen rfl k
/- xs + ys -/
theorem evn_addL {a b : Value} {xs ys : List PyData} (ha : SL xs W a) (hb : SL ys W b) (hlen : xs.length + ys.length ≤ sizeLine) : EvN prog w A (binaryOp .Add a b) W (xs ++ ys) := by
  intro W' l s hs Q E k
  obtain ⟨p, vs, rfl, ⟨⟨cls, dd, data, sl⟩, ho, hc, n, hd⟩, q⟩ := ha.le l
  obtain ⟨p2, ws, rfl, ⟨⟨cls2, dd2, data2, sl2⟩, ho2, hc2, n2, hd2⟩, q2⟩ := hb.le l
  simp only at hc hd hc2 hd2
  subst hc hd hc2 hd2
  have ho' : s.heap.get? p = some ({ cls := .type "list", dict := dd, data := .seq vs n, slots := sl } : Obj) := by rw [hs]; exact ho
  have ho2' : s.heap.get? p2 = some ({ cls := .type "list", dict := dd2, data := .seq ws n2, slots := sl2 } : Obj) := by rw [hs]; exact ho2
  have hlen' : vs.size + ws.size ≤ sizeLine := by have h1 := q.length; have h2 := q2.length; simp at h1 h2; lia
  refine concat_meets ⟨_, ho', rfl⟩ ⟨_, ho2', rfl⟩ noFill_list_add seq_list_add PySem.F.slot_list_add PySem.F.entry_list_add (PySem.F.args_list_add_2 _ _) (list_addW p p2 vs ws n n2 dd dd2 sl sl2 hlen') ⟨ho', ho2', ?_⟩
  obtain ⟨W₁, e1, l1, eF, e2, h0⟩ := Wld.push_new hs { cls := .type "list", data := .seq (vs ++ ws) } rfl
  have z := k W₁ s.toks (.ref s.heap.objs.size) l1 ⟨_, _, _, rfl, e2, by rw [eF]; exact Wld.F_none h0, by rw [eF]; simpa using q.append q2, h0⟩
  rw [e1] at z
  exact z
theorem evn_addE {l r : Expr} {pos : Pos} {xs ys : List PyData} (h1 : Ex prog w A env l W (SL xs)) (h2 : Ex prog w A env r W (SL ys)) (hlen : xs.length + ys.length ≤ sizeLine) : EvN prog w A (eval (.BinOp l .Add r pos) env) W (xs ++ ys) := by
  intro W' lw s hs Q E k
  refine wpAny_BinOp (h1 W' lw s hs _ _ fun W₁ tk a l₁ p₁ => h2 W₁ (lw.trans l₁) _ rfl _ _ fun W₂ tk₂ b l₂ p₂ => ?_)
  refine evn_addL (p₁.le l₂) p₂ hlen W₂ (.refl _) _ rfl Q E fun W₃ tk₃ v l₃ p₃ => k W₃ tk₃ v ((l₁.trans l₂).trans l₃) ?_
  obtain ⟨D, vs, n, e1, e2, e3, e4, e5⟩ := p₃
  exact ⟨D, vs, n, e1, e2, e3, e4, (l₁.trans l₂).none e5⟩

/- a tree and what it hands on, told of the state that it began in too -/
noncomputable def GE (prog : Program) (w : World) (A : Around) (t : Sem Value) (W : Wld g) (R : Wld g → Wld g → Value → Prop) : Prop :=
  ∀ W' : Wld g, W.Le W' → ∀ s : Shared, s.heap = W'.h → ∀ (Q : Value → Shared → Prop) (E : Value → Shared → Prop),
    (∀ W'' tk v, W'.Le W'' → R W' W'' v → Q v { s with heap := W''.h, toks := tk }) → wpAny (model prog w) A t Q E s
theorem Ev.ge {t : Sem Value} {P : Wld g → Value → Prop} (h : Ev prog w A t W P) : GE prog w A t W fun _ => P := h
theorem EvN.ge {t : Sem Value} {xs : List PyData} (h : EvN prog w A t W xs) : GE prog w A t W fun W' => NewL W' xs := h

/- a pair written out, and taken apart -/
theorem wp_pair {e₁ e₂ : Expr} {n : Nat} {p : Pos} {R₁ R₂ : Wld g → Wld g → Value → Prop} (hh : A.handled = none) (h1 : GE prog w A (eval e₁ env) W R₁) (h2 : GE prog w A (eval e₂ env) W R₂) (hst : starEach [e₁, e₂] env = [(false, eval e₁ env), (false, eval e₂ env)])
    (hs : s.heap = W.h) {Q : Value → Shared → Prop}
    (k : ∀ (W₁ W₂ W₃ : Wld g) t a b tk, W.Le W₁ → R₁ W W₁ a → W₁.Le W₂ → R₂ W₁ W₂ b → W₂.Le W₃ → IsTup W₃.h t #[a, b] → Q (.ref t) { s with heap := W₃.h, toks := tk }) :
    wpAny (model prog w) A (eval (.Tuple [e₁, e₂] n p) env) Q E s := by
  refine Tuple_ ?_
  rw [hst]
  show wpAny _ A (spliced [(false, eval e₁ env), (false, eval e₂ env)]) _ E s
  refine spliced_cons (h1 W (.refl _) s hs _ _ fun W₁ tk a l₁ r₁ => spliced_cons (h2 W₁ l₁ _ rfl _ _ fun W₂ tk₂ b l₂ r₂ => spliced_nil ?_))
  refine wpAny_newTuple ?_ (show 2 ≤ sizeLine by decide)
  obtain ⟨W₃, e3, l3, eF, e4, _⟩ := Wld.push_new (W := W₂) (s := { s with heap := W₂.h, toks := tk₂ }) rfl { cls := .type "tuple", data := .seq [a, b].toArray } rfl
  have z := k W₁ W₂ W₃ _ a b tk₂ l₁ r₁ l₂ r₂ l3 ⟨_, e4, rfl, _, rfl⟩
  rw [e3] at z
  exact z
theorem wp_unpack2 {t : Addr} {a b : Value} (hh : A.handled = none) (ht : IsTup W.h t #[a, b]) (hs : s.heap = W.h) {Q : List Value → Shared → Prop}
    (k : ∀ (W' : Wld g), W.Le W' → Q [a, b] { s with heap := W'.h }) : wpAny (model prog w) A (unpackItems (.ref t) 2 none) Q E s := by
  refine unpackItems_tuple (items := #[a, b]) hh (by rw [hs]; exact ht) fun h' hx => ?_
  have kp : ∀ c o, W.h.get? c = some o → h'.get? c = some o := fun c o e => hx c o (Nat.ne_of_lt (Heap.lt_size (by rw [hs]; exact e))) (by rw [hs]; exact e)
  exact k (W.grow h' kp) (W.grow_le h' kp)
/- x, y = (e₁, e₂), both locals of the line -/
theorem st_pairL0 {x y : Str} {px py tp pos vp : Pos} {e₁ e₂ : Expr} {n₁ n₂ : Nat} {R₁ R₂ : Wld g → Wld g → Value → Prop} (hh : A.handled = none) (F : FS B W env own m cm) (hs : s.heap = W.h)
    (h1 : GE prog w A (eval e₁ env) W R₁) (h2 : GE prog w A (eval e₂ env) W R₂) (hst : starEach [e₁, e₂] env = [(false, eval e₁ env), (false, eval e₂ env)])
    (hx : env.kindOf x = some .local) (hy : env.kindOf y = some .local) (hp : (env.scope.kind == .class || (env.scope.kind == .module && env.locals != env.globals)) = false)
    (hsw : swapsWithSole [.Tuple [.Name x px, .Name y py] n₁ tp] (.Tuple [e₁, e₂] n₂ vp) pos.line env = pure false)
    (hsp : swappedStores [.Tuple [.Name x px, .Name y py] n₁ tp] (.Tuple [e₁, e₂] n₂ vp) env = pure (some [x, y]))
    (k : ∀ (W₁ W₂ W₃ : Wld g) a b tk, W.Le W₁ → R₁ W W₁ a → W₁.Le W₂ → R₂ W₁ W₂ b → Step env.locals W₂ W₃ → FS B W₃ env own (upd (upd m y b) x a) cm → wpAny (model prog w) A (execs rest env) Q E { s with heap := W₃.h, toks := tk }) :
    wpAny (model prog w) A (execs (.Assign [.Tuple [.Name x px, .Name y py] n₁ tp] (.Tuple [e₁, e₂] n₂ vp) pos :: rest) env) Q E s := by
  refine wpAny_execs_cons (Assign_Tuple_swapped ?_ hsw hsp)
  refine wp_pair hh h1 h2 hst hs fun W₁ W₂ W₃ t a b tk l₁ r₁ l₂ r₂ l₃ ht => ?_
  refine wp_unpack2 (W := W₃) hh ht rfl fun W₄ l₄ => ?_
  have F₄ := ((((F.up l₁).up l₂).up l₃).up l₄)
  show wpAny _ A (assignInOrder [fun v => bindName env y v, fun v => bindName env x v] [b, a]) _ E _
  unfold assignInOrder
  refine wpAny_bind (wpAny_holding (wpAny_bindName (F₄.store (s := { s with heap := W₄.h, toks := tk }) rfl hy hp fun W₅ tk₅ F₅ s₅ _ => ?_)))
  unfold assignInOrder
  refine wpAny_bind (wpAny_holding (wpAny_bindName (F₅.store (s := { s with heap := W₅.h, toks := tk₅ }) rfl hx hp fun W₆ tk₆ F₆ s₆ _ => ?_)))
  exact wpAny_pure (k W₁ W₂ W₆ a b tk₆ l₁ r₁ l₂ r₂ (((Step.of_le (l₃.trans l₄)).trans s₅).trans s₆) F₆)
theorem st_pairL {t0 : Nat} {x y : Str} {px py tp pos vp : Pos} {e₁ e₂ : Expr} {n₁ n₂ : Nat} {R₁ R₂ : Wld g → Wld g → Value → Prop} (hh : A.handled = none) (F : FS B W env own m cm) (_hs : W.h = W.h)
    (h1 : GE prog w A (eval e₁ env) W R₁) (h2 : GE prog w A (eval e₂ env) W R₂) (hst : starEach [e₁, e₂] env = [(false, eval e₁ env), (false, eval e₂ env)])
    (hx : env.kindOf x = some .local) (hy : env.kindOf y = some .local) (hp : (env.scope.kind == .class || (env.scope.kind == .module && env.locals != env.globals)) = false)
    (hsw : swapsWithSole [.Tuple [.Name x px, .Name y py] n₁ tp] (.Tuple [e₁, e₂] n₂ vp) pos.line env = pure false)
    (hsp : swappedStores [.Tuple [.Name x px, .Name y py] n₁ tp] (.Tuple [e₁, e₂] n₂ vp) env = pure (some [x, y]))
    (k : ∀ (W₁ W₂ W₃ : Wld g) a b tk, W.Le W₁ → R₁ W W₁ a → W₁.Le W₂ → R₂ W₁ W₂ b → Step env.locals W₂ W₃ → FS B W₃ env own (upd (upd m y b) x a) cm → wpAny (model prog w) A (execs rest env) Q E { s with heap := W₃.h, toks := tk }) :
    wpAny (model prog w) A (execs (.Assign [.Tuple [.Name x px, .Name y py] n₁ tp] (.Tuple [e₁, e₂] n₂ vp) pos :: rest) env) Q E { s with heap := W.h, toks := t0 } := st_pairL0 (s := { s with heap := W.h, toks := t0 }) hh F rfl h1 h2 hst hx hy hp hsw hsp k
/- x, y = (e₁, e₂), in order -/
theorem st_pair0 {x y : Str} {px py tp pos vp : Pos} {e₁ e₂ : Expr} {n₁ n₂ : Nat} {R₁ R₂ : Wld g → Wld g → Value → Prop} {cx cy : Option Addr} (hh : A.handled = none) (hk : env.scope.kind = .function) (F : FS B W env own m cm) (hs : s.heap = W.h)
    (h1 : GE prog w A (eval e₁ env) W R₁) (h2 : GE prog w A (eval e₂ env) W R₂) (hst : starEach [e₁, e₂] env = [(false, eval e₁ env), (false, eval e₂ env)])
    (hx : Tgt env own x cx) (hy : Tgt env own y cy)
    (hsw : swapsWithSole [.Tuple [.Name x px, .Name y py] n₁ tp] (.Tuple [e₁, e₂] n₂ vp) pos.line env = pure false)
    (hsp : swappedStores [.Tuple [.Name x px, .Name y py] n₁ tp] (.Tuple [e₁, e₂] n₂ vp) env = pure none)
    (k : ∀ (W₁ W₂ W₃ W₄ : Wld g) a b tk m₁ cm₁ m₂ cm₂, W.Le W₁ → R₁ W W₁ a → W₁.Le W₂ → R₂ W₁ W₂ b → Step env.locals W₂ W₃ → Step env.locals W₃ W₄ → FS B W₄ env own m₂ cm₂ → (∀ z, z ≠ x → m₁ z = m z) → (∀ c, cx ≠ some c → cm₁ c = cm c) → Nm W₃.h env x a →
      FS B W₃ env own m₁ cm₁ → (∀ z, z ≠ y → m₂ z = m₁ z) → (∀ c, cy ≠ some c → cm₂ c = cm₁ c) → Nm W₄.h env y b →
      wpAny (model prog w) A (execs rest env) Q E { s with heap := W₄.h, toks := tk }) :
    wpAny (model prog w) A (execs (.Assign [.Tuple [.Name x px, .Name y py] n₁ tp] (.Tuple [e₁, e₂] n₂ vp) pos :: rest) env) Q E s := by
  refine wpAny_execs_cons (Assign_Tuple ?_ hsw hsp)
  refine wp_pair hh h1 h2 hst hs fun W₁ W₂ W₃ t a b tk l₁ r₁ l₂ r₂ l₃ ht => ?_
  refine assign_Tuple_tuple (items := #[a, b]) hh ht rfl (by rfl) fun h' hx' => ?_
  have kp : ∀ c o, W₃.h.get? c = some o → h'.get? c = some o := fun c o e => hx' c o (Nat.ne_of_lt (Heap.lt_size e)) e
  let W₄ := W₃.grow h' kp
  have l₄ : W₃.Le W₄ := W₃.grow_le h' kp
  have F₄ := ((((F.up l₁).up l₂).up l₃).up l₄)
  show wpAny _ A (assignInOrder [assign (.Name x px) env, assign (.Name y py) env] [a, b]) _ E _
  unfold assignInOrder
  refine wpAny_bind (wpAny_holding (F₄.assign (s := { s with heap := W₄.h, toks := tk }) rfl hk hx fun W₅ tk₅ m₁ cm₁ F₅ hm₁ hc₁ nm₁ s₅ _ => ?_))
  unfold assignInOrder
  refine wpAny_bind (wpAny_holding (F₅.assign (s := { s with heap := W₅.h, toks := tk₅ }) rfl hk hy fun W₆ tk₆ m₂ cm₂ F₆ hm₂ hc₂ nm₂ s₆ _ => ?_))
  exact wpAny_pure (k W₁ W₂ W₅ W₆ a b tk₆ m₁ cm₁ m₂ cm₂ l₁ r₁ l₂ r₂ ((Step.of_le (l₃.trans l₄)).trans s₅) s₆ F₆ hm₁ hc₁ nm₁ F₅ hm₂ hc₂ nm₂)

theorem st_pair {t0 : Nat} {x y : Str} {px py tp pos vp : Pos} {e₁ e₂ : Expr} {n₁ n₂ : Nat} {R₁ R₂ : Wld g → Wld g → Value → Prop} {cx cy : Option Addr} (hh : A.handled = none) (hk : env.scope.kind = .function) (F : FS B W env own m cm) (_hs : W.h = W.h)
    (h1 : GE prog w A (eval e₁ env) W R₁) (h2 : GE prog w A (eval e₂ env) W R₂) (hst : starEach [e₁, e₂] env = [(false, eval e₁ env), (false, eval e₂ env)])
    (hx : Tgt env own x cx) (hy : Tgt env own y cy)
    (hsw : swapsWithSole [.Tuple [.Name x px, .Name y py] n₁ tp] (.Tuple [e₁, e₂] n₂ vp) pos.line env = pure false)
    (hsp : swappedStores [.Tuple [.Name x px, .Name y py] n₁ tp] (.Tuple [e₁, e₂] n₂ vp) env = pure none)
    (k : ∀ (W₁ W₂ W₃ W₄ : Wld g) a b tk m₁ cm₁ m₂ cm₂, W.Le W₁ → R₁ W W₁ a → W₁.Le W₂ → R₂ W₁ W₂ b → Step env.locals W₂ W₃ → Step env.locals W₃ W₄ → FS B W₄ env own m₂ cm₂ → (∀ z, z ≠ x → m₁ z = m z) → (∀ c, cx ≠ some c → cm₁ c = cm c) → Nm W₃.h env x a →
      FS B W₃ env own m₁ cm₁ → (∀ z, z ≠ y → m₂ z = m₁ z) → (∀ c, cy ≠ some c → cm₂ c = cm₁ c) → Nm W₄.h env y b →
      wpAny (model prog w) A (execs rest env) Q E { s with heap := W₄.h, toks := tk }) :
    wpAny (model prog w) A (execs (.Assign [.Tuple [.Name x px, .Name y py] n₁ tp] (.Tuple [e₁, e₂] n₂ vp) pos :: rest) env) Q E { s with heap := W.h, toks := t0 } := st_pair0 (s := { s with heap := W.h, toks := t0 }) hh hk F rfl h1 h2 hst hx hy hsw hsp k
/- a method of a list that is a name's, called with one thing, for what it does -/
theorem st_method10 {o e : Expr} {name : Str} {id : String} {apos pos spos : Pos} {D : Addr} {P : Wld g → Value → Prop} (hs : s.heap = W.h)
    (ho : Ex prog w A env o W fun _ v => v = .ref D) (hl : ∀ W', W.Le W' → ∃ xs, UL W' D xs) (slot : Slot "list" name id) (hty : typeOf (.builtin id) = pure (.type "method_descriptor"))
    (he : Ex prog w A env e W P) (hbase : attributeBase o name env (eval o env) = eval o env) (hst : starEach [e] env = [(false, eval e env)]) (hline : (apos.endLine == pos.line) = true)
    (hi : interactive env = false) (hsw : swapsWith (.Call (.Attribute o name apos) [e] [] pos) none spos.line env = pure false)
    (k : ∀ (W₁ : Wld g) v tk, W.Le W₁ → P W₁ v → wpAny (model prog w) A (call (.builtin id) [.ref D, v]) (fun _ s' => wpAny (model prog w) A (execs rest env) Q E s') E { s with heap := W₁.h, toks := tk }) :
    wpAny (model prog w) A (execs (.Expr (.Call (.Attribute o name apos) [e] [] pos) spos :: rest) env) Q E s := by
  refine wpAny_execs_cons (wpAny_Expr_any ?_ hi hsw)
  refine wpAny_Call_method1_late hbase hline (by rw [hst]; rfl) (ho W (.refl _) s hs _ _ fun W₁ tk v l₁ e₁ => ?_)
  subst e₁
  obtain ⟨xs, vs, n, eD, _, _⟩ := hl W₁ l₁
  refine ⟨"list", id, PySem.F.plainAttrs_list, slot, hty, ⟨_, eD, rfl⟩, fun a q => by cases q; exact ⟨_, eD, rfl⟩, ?_⟩
  exact callWith_builtin rfl (evalArgs_plain (spliced_cons (he W₁ l₁ _ rfl _ _ fun W₂ tk₂ v l₂ p₂ => spliced_nil (k W₂ v tk₂ (l₁.trans l₂) p₂))))
theorem st_method1 {t0 : Nat} {o e : Expr} {name : Str} {id : String} {apos pos spos : Pos} {D : Addr} {P : Wld g → Value → Prop} (_hs : W.h = W.h)
    (ho : Ex prog w A env o W fun _ v => v = .ref D) (hl : ∀ W', W.Le W' → ∃ xs, UL W' D xs) (slot : Slot "list" name id) (hty : typeOf (.builtin id) = pure (.type "method_descriptor"))
    (he : Ex prog w A env e W P) (hbase : attributeBase o name env (eval o env) = eval o env) (hst : starEach [e] env = [(false, eval e env)]) (hline : (apos.endLine == pos.line) = true)
    (hi : interactive env = false) (hsw : swapsWith (.Call (.Attribute o name apos) [e] [] pos) none spos.line env = pure false)
    (k : ∀ (W₁ : Wld g) v tk, W.Le W₁ → P W₁ v → wpAny (model prog w) A (call (.builtin id) [.ref D, v]) (fun _ s' => wpAny (model prog w) A (execs rest env) Q E s') E { s with heap := W₁.h, toks := tk }) :
    wpAny (model prog w) A (execs (.Expr (.Call (.Attribute o name apos) [e] [] pos) spos :: rest) env) Q E { s with heap := W.h, toks := t0 } := st_method10 (s := { s with heap := W.h, toks := t0 }) rfl ho hl slot hty he hbase hst hline hi hsw k
end
end Mine
namespace Mine

/- what _law_left reckons, in plain lists -/
noncomputable def ones (p : Int) : List Int := (List.range (p - 1).toNat).map fun (i : Nat) => 1 + (i : Int)
noncomputable def others (p x : Int) : List Int := (ones p).filter fun one => (one * x).fmod p == 1
noncomputable def inv (p x : Int) : Int := (others p x).headD 0
noncomputable def redRow (p : Int) (c : Nat) (first r : List Int) : List Int := (List.range r.length).map fun k => (r.getD k 0 - r.getD c 0 * first.getD k 0).fmod p
noncomputable def firstOf (p : Int) (c : Nat) (g0 : List Int) : List Int := g0.map fun n => (inv p (g0.getD c 0) * n).fmod p
noncomputable def lstep (p : Int) (st : List (List Int) × List (List Int)) (c : Nat) : List (List Int) × List (List Int) :=
  match st.1.dropWhile (fun r => r.getD c 0 == 0) with
  | [] => st
  | g0 :: post => ((st.1.takeWhile (fun r => r.getD c 0 == 0) ++ post).map (redRow p c (firstOf p c g0)), st.2.map (redRow p c (firstOf p c g0)) ++ [firstOf p c g0])
noncomputable def leftOf (p : Int) (nc : Nat) (T : List (List Int)) : List (List Int) := ((List.range nc).foldl (lstep p) (T, [])).2

noncomputable def PrimeOk (p : Int) : Prop := p = 2 ∨ p = 3 ∨ p = 5
noncomputable def Bd (p : Int) (nc : Nat) (rows : List (List Int)) : Prop := ∀ r ∈ rows, r.length = nc ∧ ∀ x ∈ r, 0 ≤ x ∧ x < p

theorem PrimeOk.pos {p : Int} (h : PrimeOk p) : 2 ≤ p ∧ p ≤ 5 := by rcases h with h | h | h <;> lia
theorem fmod_bd {p : Int} (h : PrimeOk p) (x : Int) : 0 ≤ x.fmod p ∧ x.fmod p < p := ⟨Int.fmod_nonneg_of_pos _ (by have := h.pos; lia), Int.fmod_lt_of_pos _ (by have := h.pos; lia)⟩
theorem inv_ok {p x : Int} (h : PrimeOk p) (h0 : 0 < x) (h1 : x < p) : ∃ i rest, others p x = i :: rest ∧ 1 ≤ i ∧ i < p ∧ (i * x).fmod p = 1 := by
  rcases h with rfl | rfl | rfl
  · have : x = 1 := by lia
    subst this; exact ⟨1, [], by decide, by decide, by decide, by decide⟩
  · have : x = 1 ∨ x = 2 := by lia
    rcases this with rfl | rfl
    · exact ⟨1, [], by decide, by decide, by decide, by decide⟩
    · exact ⟨2, [], by decide, by decide, by decide, by decide⟩
  · have : x = 1 ∨ x = 2 ∨ x = 3 ∨ x = 4 := by lia
    rcases this with rfl | rfl | rfl | rfl
    · exact ⟨1, [], by decide, by decide, by decide, by decide⟩
    · exact ⟨3, [], by decide, by decide, by decide, by decide⟩
    · exact ⟨2, [], by decide, by decide, by decide, by decide⟩
    · exact ⟨4, [], by decide, by decide, by decide, by decide⟩
theorem getD_bd {p : Int} (hp : PrimeOk p) {r : List Int} (h : ∀ x ∈ r, 0 ≤ x ∧ x < p) (k : Nat) : 0 ≤ r.getD k 0 ∧ r.getD k 0 < p := by
  rw [List.getD_eq_getElem?_getD]
  cases q : r[k]? with
  | none => exact ⟨Int.le_refl 0, by have := hp.pos; show (0 : Int) < p; omega⟩
  | some x => exact h x (List.mem_of_getElem? q)
theorem mul_bd {a b : Int} (h0 : 0 ≤ a) (h1 : a ≤ 4) (h2 : 0 ≤ b) (h3 : b ≤ 4) : 0 ≤ a * b ∧ a * b ≤ 16 :=
  ⟨Int.mul_nonneg h0 h2, by have := Int.mul_le_mul h1 h3 h2 (by decide : (0 : Int) ≤ 4); lia⟩
theorem redRow_bd {p : Int} (hp : PrimeOk p) {c : Nat} {first r : List Int} : (redRow p c first r).length = r.length ∧ ∀ x ∈ redRow p c first r, 0 ≤ x ∧ x < p := by
  unfold redRow
  refine ⟨by simp, fun x hx => ?_⟩
  obtain ⟨k, _, rfl⟩ := List.mem_map.mp hx
  exact fmod_bd hp _
theorem firstOf_bd {p : Int} (hp : PrimeOk p) {c : Nat} {g0 : List Int} : (firstOf p c g0).length = g0.length ∧ ∀ x ∈ firstOf p c g0, 0 ≤ x ∧ x < p := by
  unfold firstOf
  refine ⟨by simp, fun x hx => ?_⟩
  obtain ⟨k, _, rfl⟩ := List.mem_map.mp hx
  exact fmod_bd hp _
theorem mem_takeWhile {α : Type} {q : α → Bool} {l : List α} {x : α} (h : x ∈ l.takeWhile q) : x ∈ l := List.takeWhile_sublist q |>.mem h
theorem mem_dropWhile {α : Type} {q : α → Bool} {l : List α} {x : α} (h : x ∈ l.dropWhile q) : x ∈ l := List.dropWhile_sublist q |>.mem h
theorem lstep_bd {p : Int} {nc c : Nat} (hp : PrimeOk p) {st : List (List Int) × List (List Int)} (h1 : Bd p nc st.1) (h2 : Bd p nc st.2) : Bd p nc (lstep p st c).1 ∧ Bd p nc (lstep p st c).2 := by
  unfold lstep
  split
  · exact ⟨h1, h2⟩
  · rename_i g0 post e
    have hg : g0 ∈ st.1 := mem_dropWhile (by rw [e]; exact .head _)
    have hpost : ∀ r ∈ post, r ∈ st.1 := fun r hr => mem_dropWhile (by rw [e]; exact .tail _ hr)
    refine ⟨fun r hr => ?_, fun r hr => ?_⟩
    · obtain ⟨r', hr', rfl⟩ := List.mem_map.mp hr
      have hm : r' ∈ st.1 := (List.mem_append.mp hr').elim mem_takeWhile (hpost r')
      exact ⟨redRow_bd hp |>.1.trans (h1 r' hm).1, (redRow_bd hp).2⟩
    · rcases List.mem_append.mp hr with hr | hr
      · obtain ⟨r', hr', rfl⟩ := List.mem_map.mp hr
        exact ⟨redRow_bd hp |>.1.trans (h2 r' hr').1, (redRow_bd hp).2⟩
      · rw [List.mem_singleton.mp hr]
        exact ⟨firstOf_bd hp |>.1.trans (h1 g0 hg).1, (firstOf_bd hp).2⟩

theorem lstep_len {p : Int} {c : Nat} (st : List (List Int) × List (List Int)) : (lstep p st c).1.length ≤ st.1.length ∧ (lstep p st c).2.length ≤ st.2.length + 1 := by
  unfold lstep
  split
  · exact ⟨Nat.le_refl _, Nat.le_succ _⟩
  · rename_i g0 post e
    have := congrArg List.length (List.takeWhile_append_dropWhile (p := fun r : List Int => r.getD c 0 == 0) (l := st.1))
    rw [List.length_append, e, List.length_cons] at this
    simp only [List.length_map, List.length_append, List.length_singleton]
    lia

noncomputable def onB (f : Int → Bool) : PyData → Bool
  | .int k => f k
  | _ => false
noncomputable def onLB (f : List Int → Bool) : PyData → Bool
  | .list xs => f (xs.map toI)
  | _ => false
theorem onLB_LI (f : List Int → Bool) (r : List Int) : onLB f (LI r) = f r := by
  show f ((r.map PyData.int).map toI) = f r
  rw [toI_map]
theorem filter_LI (f : List Int → Bool) : ∀ rows : List (List Int), (rows.map LI).filter (onLB f) = (rows.filter f).map LI
  | [] => rfl
  | r :: rows => by
    rw [List.map_cons, List.filter_cons, List.filter_cons, onLB_LI, filter_LI f rows]
    cases f r <;> rfl
theorem filter_int (f : Int → Bool) : ∀ l : List Int, (l.map PyData.int).filter (onB f) = (l.filter f).map .int
  | [] => rfl
  | r :: rows => by
    rw [List.map_cons, List.filter_cons, List.filter_cons, filter_int f rows]
    show (if f r = true then _ else _) = _
    cases f r <;> rfl
theorem rng_ints (a : Int) (n : Nat) : rng a n = ((List.range n).map fun (i : Nat) => a + (i : Int)).map .int := by
  unfold rng
  rw [List.map_map]; rfl
theorem pl_LI (r : List Int) : pl 1 (LI r) = true := by
  show ((r.map PyData.int).all (pl 0)) = true
  rw [List.all_eq_true]
  intro x hx
  obtain ⟨y, _, rfl⟩ := List.mem_map.mp hx
  rfl
theorem pl_LLI (rows : List (List Int)) : pl 2 (.list (rows.map LI)) = true := by
  show ((rows.map LI).all (pl 1)) = true
  rw [List.all_eq_true]
  intro x hx
  obtain ⟨y, _, rfl⟩ := List.mem_map.mp hx
  exact pl_LI y
theorem LI_inj {a b : List Int} (h : LI a = LI b) : a = b := by
  have : (a.map PyData.int).map toI = (b.map PyData.int).map toI := by
    unfold LI at h
    rw [PyData.list.inj h]
  rwa [toI_map, toI_map] at this

theorem split_filter (c : Nat) : ∀ rows : List (List Int),
    (rows.filter (fun r => r.getD c 0 != 0) = [] ∧ rows.dropWhile (fun r => r.getD c 0 == 0) = []) ∨
    ∃ pre g0 post gs, rows = pre ++ g0 :: post ∧ rows.filter (fun r => r.getD c 0 != 0) = g0 :: gs ∧ rows.dropWhile (fun r => r.getD c 0 == 0) = g0 :: post ∧ rows.takeWhile (fun r => r.getD c 0 == 0) = pre ∧ g0.getD c 0 ≠ 0 ∧ ∀ r ∈ pre, r.getD c 0 = 0
  | [] => .inl ⟨rfl, rfl⟩
  | r :: rows => by
    by_cases h : r.getD c 0 = 0
    · have h1 : (r.getD c 0 == 0) = true := beq_iff_eq.mpr h
      have h2 : (r.getD c 0 != 0) = false := by unfold bne; rw [h1]; rfl
      rcases split_filter c rows with ⟨a, b⟩ | ⟨pre, g0, post, gs, e, f, d, t, nz, z⟩
      · left
        refine ⟨?_, ?_⟩
        · rw [List.filter_cons, h2]; exact a
        · rw [List.dropWhile_cons, if_pos h1]; exact b
      · right
        refine ⟨r :: pre, g0, post, gs, by rw [e]; rfl, ?_, ?_, ?_, nz, ?_⟩
        · rw [List.filter_cons, h2]; exact f
        · rw [List.dropWhile_cons, if_pos h1]; exact d
        · rw [List.takeWhile_cons, h1, t]; rfl
        · intro r' hr'
          rcases List.mem_cons.mp hr' with rfl | hr'
          · exact h
          · exact z r' hr'
    · have h1 : (r.getD c 0 == 0) = false := beq_eq_false_iff_ne.mpr h
      have h2 : (r.getD c 0 != 0) = true := by unfold bne; rw [h1]; rfl
      right
      refine ⟨[], r, rows, rows.filter (fun r => r.getD c 0 != 0), rfl, ?_, ?_, ?_, h, fun _ hr => nomatch hr⟩
      · rw [List.filter_cons, h2]; rfl
      · rw [List.dropWhile_cons, h1]; rfl
      · rw [List.takeWhile_cons, h1]; rfl

/- int_divmod's contract -/
noncomputable def DmOk (prog : Program) (w : World) (g : Heap) (f : Value) : Prop :=
  (∃ a o fd, f = .ref a ∧ g.get? a = some o ∧ o.data = .func fd) ∧
  ∀ (A : Around) (W : Wld g) (a b : Int) (t u : Tok), Ok 12 A → -20 ≤ a → a ≤ 20 → PrimeOk b → Ev prog w A (call f [.int a t, .int b u]) W (V (.tuple [.int (a.fdiv b), .int (a.fmod b)]))

section
variable {g : Heap} {prog : Program} {w : World} {A : Around} {B W : Wld g} {mg mb : Str → Option Value} {env : Env}

theorem tst_eqc {l r : Expr} {pos : Pos} {x y : PyData} {c : Bool} (h1 : Ex prog w A env l W (Sh x)) (h2 : Ex prog w A env r W (Sh y)) (sx : SeqAt.shaped x = true) (sy : SeqAt.shaped y = true) (hu : A.units + 64 < cLine) (e : PyData.eqv x y = c)
    (hm : behindInMarks .Eq r = false) : Tst prog w A env (.Compare l [.Eq] [r] pos) W c := e ▸ tst_eq h1 h2 sx sy hu hm
/- int_divmod(e, p)[1] -/
theorem ex_dm {e₁ e₂ : Expr} {x : Str} {np cp p1 pos : Pos} {k1 : Nat} {f : Value} {a p : Int} (D : DmOk prog w g f) (hA : Ok 12 A) (hf : Ex prog w A env (.Name x np) W fun _ v => v = f) (hst : starEach [e₁, e₂] env = [(false, eval e₁ env), (false, eval e₂ env)])
    (h1 : Ex prog w A env e₁ W (V (.int a))) (h2 : Ex prog w A env e₂ W (V (.int p))) (hp : PrimeOk p) (hlo : -20 ≤ a) (hhi : a ≤ 20) :
    Ex prog w A env (.Subscript (.Call (.Name x np) [e₁, e₂] [] cp) (.Constant (.int 1) k1 p1) pos) W (V (.int (a.fmod p))) := by
  refine ex_itemT (hsub := by intro _ _; with_unfolding_all rfl) (xs := [.int (a.fdiv p), .int (a.fmod p)]) (k := 1) (Ev.mono ?_ fun _ _ _ p => IsV.st p) ex_int (by decide) (by decide) rfl
  refine ex_fn2 hf D.1 hst h1 h2 fun W₁ W₂ u v l₁ l₂ q₁ q₂ => ?_
  cases q₁ with
  | int _ t => cases q₂ with
    | int _ t' => exact D.2 A W₂ a p t t' hA hlo hhi hp
theorem IsCell.eq {h : Heap} {c : Addr} {a b : Option Value} (x : h.IsCell c a) (y : h.IsCell c b) : a = b := by
  obtain ⟨o, e, d⟩ := x
  obtain ⟨o', e', d'⟩ := y
  rw [e] at e'; cases e'
  rw [d] at d'; cases d'; rfl
theorem FS.ic {own : List Addr} {m : Str → Option Value} {cm : Addr → Option Value} (F : FS B W env own m cm) {c : Addr} {v : Value} (ho : c ∈ own) (hv : cm c = some v) : W.h.IsCell c (some v) := hv ▸ (F.cl c ho).1

theorem ad_ne {L : Addr} {m n : Nat} (h : m ≠ n) : L + m ≠ L + n := fun q => h (Nat.add_left_cancel q)
noncomputable def leftSc : Scope := scopeOf (fdef 12)
noncomputable def leftEnv (L a : Addr) (cd : Value) : Env := envOfC "_law_left" leftSc L a cd

noncomputable def LInv (B : Wld g) (p : Int) (nc : Nat) (T : List (List Int)) (L : Addr) (i : Nat) (W : Wld g) (m : Str → Option Value) (cm : Addr → Option Value) : Prop :=
  ∃ R vf vp, B.h.get? R = none ∧ m "rows" = some (.ref R) ∧ UL W R (((List.range i).foldl (lstep p) (T, [])).1.map LI) ∧ m "found" = some vf ∧ IsV W.F vf (.list (((List.range i).foldl (lstep p) (T, [])).2.map LI)) ∧ cm (L + 1) = some vp ∧ IsV W.F vp (.int p)

theorem rgN {nc : Nat} (h : nc ≤ 3) : Builtin.Range.small 0 (nc : Int) 1 = true ∧ Builtin.Range.rangeSize 0 (nc : Int) 1 = (nc : Int) := by
  have : nc = 0 ∨ nc = 1 ∨ nc = 2 ∨ nc = 3 := by lia
  rcases this with rfl | rfl | rfl | rfl <;> decide
theorem rgP {p : Int} (hp : PrimeOk p) : Builtin.Range.small 1 p 1 = true ∧ Builtin.Range.rangeSize 1 p 1 = ((p - 1).toNat : Int) := by
  rcases hp with rfl | rfl | rfl <;> decide
theorem left_body {L a : Addr} {cd : Value} {s : Shared} {m : Str → Option Value} {cm : Addr → Option Value} {Q : Flow → Shared → Prop} {E : Value → Shared → Prop} {T : List (List Int)} {p : Int} {nc : Nat} {vt vp fv : Value}
    (H : Gd g mg mb) (hA : Ok 12 A) (D : DmOk prog w g fv) (hs : s.heap = W.h) (F : FS B W (leftEnv L a cd) [L + 5, L + 4, L + 3, L + 2, L + 1] m cm)
    (hm1 : m "table" = some vt) (hc1 : cm (L + 1) = some vp)
    (it : IsV W.F vt (.list (T.map LI))) (ip : IsV W.F vp (.int p)) (hp : PrimeOk p) (hT : Bd p nc T) (hne : T ≠ []) (hnT : T.length ≤ 3) (hnc : nc ≤ 3)
    (hmd : mg "int_divmod" = some fv) (hml : mg "list" = none) (hmn : mg "len" = none) (hmr : mg "range" = none)
    (k : ∀ (W' : Wld g) v' tk, B.Le W' → IsV W'.F v' (.list ((leftOf p nc T).map LI)) → Q (.ret v') { s with heap := W'.h, toks := tk }) :
    wpAny (model prog w) A (execs (bodyOf (fdef 12)) (leftEnv L a cd)) Q E s := by
  refine wp_norm hs ?_
  have sz : ∀ n, n ≤ 1000 → n ≤ sizeLine := fun n h => Nat.le_trans h (by decide)
  -- rows, found = ([list(row) for row in table], [])
  refine st_pairL (R₁ := fun W' => NewL W' (T.map LI)) (R₂ := fun _ => V (.list [])) hA.hh F rfl ?_ ?_ rfl (by rfl) (by rfl) (by rfl) (by with_unfolding_all rfl) (by with_unfolding_all rfl) ?_
  · refine EvN.ge (EvN.cast (evn_map id (fun _ => rfl) (by with_unfolding_all rfl) rfl (by decide) (fun C => ⟨[], .nil (fun _ _ => rfl) (fun _ => rfl), .loc (by rfl) (by rfl) (List.mem_singleton_self _)⟩)
      ((ex_var (h1 := by decide) (h2 := by decide) rfl (F.nm (by rfl) hm1) it).srcV hA.hh) (sz _ (by rw [List.length_map]; lia)) fun y hy W' C v l iv nm => ?_) (List.map_id _))
    obtain ⟨r, hr, rfl⟩ := List.mem_map.mp hy
    refine EvN.frz (evn_call1 (f := .type "list") (H.builtin (hd := by decide) rfl rfl rfl (by rfl) hml (by decide) (by decide +kernel)) rfl rfl (ex_var (h1 := by decide) (h2 := by decide) rfl nm iv).sl fun W₁ a l₁ p₁ => evn_listOf (.inl p₁) (sz _ ?_))
    rw [List.length_map, (hT r hr).1]; lia
  · exact Ev.ge (EvN.frz (ex_list .nil rfl (by decide)))
  intro W₁ W₂ W₃ va vb tk l₁ r₁ l₂ r₂ sp F₃
  obtain ⟨R, vs, n, rfl, eR, fR, qR, h0R⟩ := r₁
  have UR : UL W₃ R (T.map LI) := (UL.up (W := W₁) ⟨vs, n, eR, fR, qR⟩ l₂).soft sp.so
  have fz₃ : ∀ a o, W.F a = some o → W₃.F a = some o := fun a o e => sp.so.fz a o (l₂.fz a o (l₁.fz a o e))
  refine st_for (hfold := by intro _; rfl) (c? := some (L + 2)) (xs := rng 0 nc) (fun i W m cm => LInv B p nc T L i W m cm) F₃ rfl rfl (.cel (L + 2) rfl (by rfl) (by rfl) (by first | exact m5_1 | exact m5_2 | exact m5_3 | exact m5_4 | exact m5_5 | exact m3_1 | exact m3_2 | exact m3_3 | exact m2_1 | exact m2_2 | exact List.mem_singleton_self _ | simp)) ?_ ?_ ?_ ?_ ?_
  · -- range(len(table[0]))
    obtain ⟨r0, T', rfl⟩ : ∃ r0 T', T = r0 :: T' := by cases T with | nil => exact absurd rfl hne | cons x y => exact ⟨x, y, rfl⟩
    have it₃ : IsV W₃.F vt (.list ((r0 :: T').map LI)) := it.mono fz₃
    have nm₃ : Nm W₃.h (leftEnv L a cd) "table" vt := F₃.nm (by rfl) (by
      show upd (upd m "found" vb) "rows" (.ref R) "table" = _
      rw [upd_ne (by decide), upd_ne (by decide)]; exact hm1)
    refine (ex_call1 (f := .type "range") (P₁ := V (.int nc)) (P := Rg 0 nc) (H.builtin (hd := by decide) rfl rfl rfl (by rfl) hmr (by decide) (by decide +kernel)) rfl rfl ?_ fun W₁ a l₁ p₁ => ev_range1I p₁).mono fun W' v l p => srcF_range hA.hh p ?_ ?_
    · refine (ex_call1 (f := .builtin "len") (P₁ := SL (r0.map .int)) (P := V (.int (r0.map PyData.int).length)) (H.builtin (hd := by decide) rfl rfl rfl (by rfl) hmn (by decide) (by decide +kernel)) rfl rfl ?_ fun W₁ a l₁ p₁ => ev_len p₁ ?_).mono fun W' v l p => ?_
      · exact (ex_item (hsub := by intro _ _; with_unfolding_all rfl) (x := LI r0) (ex_var (h1 := by decide) (h2 := by decide) rfl nm₃ it₃).sl ex_int (by decide) (by decide) rfl).sl
      · rw [List.length_map, (hT r0 (.head _)).1]; lia
      · have e : (r0.map PyData.int).length = nc := by rw [List.length_map, (hT r0 (.head _)).1]
        rw [e] at p; exact p
    · exact (rgN hnc).1
    · exact (rgN hnc).2
  · -- at the start
    intro W' l
    refine ⟨R, vb, vp, F.le.none h0R, upd_at, UR.up l, (upd_ne (by decide)).trans upd_at, (r₂.mono sp.so.fz).le l, hc1, (ip.mono fz₃).le l⟩
  · -- what the loop's own stores leave
    rintro i V₁ V₂ m₁ cm₁ m₂ cm₂ so hm hc ⟨R, vf, vp, e0, e1, u, e2, f, e3, q⟩
    refine ⟨R, vf, vp, e0, (hm _ (by decide)).trans e1, u.soft so, (hm _ (by decide)).trans e2, f.mono so.fz, (hc _ ?_).trans e3, q.mono so.fz⟩
    exact fun q => absurd (Option.some.inj q) (Nat.succ_ne_self (L + 1))
  · -- a turn
    rintro i y vy V₀ m₀ cm₀ tk₀ E₀ Q₀ hy iy FV ⟨R, vf, vp, e0, e1, UR, e2, fF, e3, pF⟩ nmy hQ
    have hi : i < nc := by
      rcases Nat.lt_or_ge i nc with h | h
      · exact h
      · rw [List.getElem?_eq_none (by rw [rng_len]; exact h)] at hy; cases hy
    have hyi : y = .int i := by
      unfold rng at hy
      rw [List.getElem?_map, List.getElem?_range hi] at hy
      cases hy
      show PyData.int (0 + (i : Int)) = _
      rw [Int.zero_add]
    subst hyi
    generalize hst : (List.range i).foldl (lstep p) (T, []) = st at UR fF
    have hstep : (List.range (i + 1)).foldl (lstep p) (T, []) = lstep p st i := by
      rw [List.range_succ, List.foldl_append, hst]; rfl
    have bd : (Bd p nc st.1 ∧ Bd p nc st.2) ∧ st.1.length ≤ 3 ∧ st.2.length ≤ i := by
      rw [← hst]
      clear hQ hst hstep UR fF hy iy nmy e1 e2 e3 pF FV
      induction i with
      | zero => exact ⟨⟨hT, fun r hr => nomatch hr⟩, hnT, Nat.le_refl _⟩
      | succ i ih =>
        rw [List.range_succ, List.foldl_append]
        have z := ih (by lia)
        have z2 := lstep_len (p := p) (c := i) ((List.range i).foldl (lstep p) (T, []))
        exact ⟨lstep_bd hp z.1.1 z.1.2, Nat.le_trans z2.1 z.2.1, Nat.le_trans z2.2 (Nat.succ_le_succ z.2.2)⟩
    obtain ⟨bd, ln1, ln2⟩ := bd
    obtain ⟨rows, found⟩ := st
    simp only at UR fF bd ln1 ln2
    have icc : V₀.h.IsCell (L + 2) (some vy) := nmy.cell (by rfl) (by rfl)
    -- good = [row for row in rows if row[column] != 0]
    refine st_assignC (c := L + 3) (P := V (.list ((rows.filter fun r => r.getD i 0 != 0).map LI))) FV rfl ?_ rfl (by rfl) (by rfl) (by first | exact m5_1 | exact m5_2 | exact m5_3 | exact m5_4 | exact m5_5 | exact m3_1 | exact m3_2 | exact m3_3 | exact m2_1 | exact m2_2 | exact List.mem_singleton_self _ | simp) (by with_unfolding_all rfl) ?_
    · refine EvN.frz (EvN.cast (evn_comp1 (onLB fun r => r.getD i 0 != 0) id (fun _ => rfl) (by with_unfolding_all rfl) rfl (by decide) (fun C => ⟨[], .nil (fun _ _ => rfl) (fun _ => rfl), .loc (by rfl) (by rfl) (List.mem_singleton_self _)⟩)
        ((ex_val (h1 := by decide) (h2 := by decide) (P := SL (rows.map LI)) rfl (FV.nm (by rfl) e1) fun W' l => (UR.up l).sl).srcL hA.hh) ?_ fun y hy W' C v l iv nm => ?_) ?_)
      · exact sz _ (by rw [List.length_map]; lia)
      · obtain ⟨r, hr, rfl⟩ := List.mem_map.mp hy
        refine ⟨?_, fun _ => ex_var (h1 := by decide) (h2 := by decide) rfl nm iv⟩
        rw [onLB_LI]
        refine tsts_one (tst_cmp_int (hm := by with_unfolding_all rfl) (a := r.getD i 0) (b := 0) ?_ ex_int fun t u s Q E h => P.ne_int h)
        refine ex_item (hsub := by intro _ _; with_unfolding_all rfl) (xs := r.map .int) (k := i) (ex_var (h1 := by decide) (h2 := by decide) rfl nm iv).sl (ex_var (h1 := by decide) (h2 := by decide) rfl (nm_free (c := L + 2) (IsCell.le l icc) (.inl (by rfl)) (by rfl)) (iy.le l)) (by lia) (by lia) ?_
        have := (bd.1 r hr).1
        rw [List.getElem?_map, List.getD_eq_getElem?_getD, Int.toNat_natCast, List.getElem?_eq_getElem (by lia)]; rfl
      · rw [filter_LI, List.map_id]
    intro W₄ W₅ vg tk₅ l₄ ig F₅ sp₅ hF₅
    have ig₅ := ig.mono sp₅.so.fz
    have ha₅ : Hard V₀ W₅ := (Hard.of_le l₄).trans sp₅.ha
    have so₅ : Soft (leftEnv L a cd).locals V₀ W₅ := (Soft.of_le l₄).trans sp₅.so
    have nmg : Nm W₅.h (leftEnv L a cd) "good" vg := F₅.nmC (by rfl) (by rfl) (by first | exact m5_1 | exact m5_2 | exact m5_3 | exact m5_4 | exact m5_5 | exact m3_1 | exact m3_2 | exact m3_3 | exact m2_1 | exact m2_2 | exact List.mem_singleton_self _ | simp) upd_at
    refine st_if (b := !PyData.eqv (.list ((rows.filter fun r => r.getD i 0 != 0).map LI)) (.list [])) rfl (tst_ne (hm := by with_unfolding_all rfl) (ex_var (h1 := by decide) (h2 := by decide) rfl nmg ig₅).sh (EvN.frz (ex_list .nil rfl (by decide))).sh (pl_shaped (pl_LLI _) (by decide)) (by decide) (by have := hA.un; lia)) ?_ ?_
    · intro hb W₆ tk₆ l₆
      rcases split_filter i rows with ⟨hf, hd⟩ | ⟨pre, g0, post, gs, he, hf, hdw, htw, hnz, hz⟩
      · rw [hf] at hb; cases hb
      have hg0 : g0 ∈ rows := by rw [he]; exact List.mem_append_right _ (.head _)
      have hgl := (bd.1 g0 hg0).1
      have hgb := (bd.1 g0 hg0).2
      generalize hx : g0.getD i 0 = x at hnz
      have hxb : 0 ≤ x ∧ x < p := hx ▸ getD_bd hp hgb i
      have hpp := hp.pos
      obtain ⟨iv, orest, ho, hi1, hi2, hi3⟩ := inv_ok hp (x := x) (by lia) hxb.2
      have F₆ := F₅.up l₆
      have ig₆ : IsV W₆.F vg (.list (LI g0 :: gs.map LI)) := by
        have z := ig₅.le l₆
        rw [hf] at z; exact z
      have ip₆ : IsV W₆.F vp (.int p) := (pF.mono so₅.fz).le l₆
      have iy₆ : IsV W₆.F vy (.int i) := (iy.mono so₅.fz).le l₆
      have icP : (upd cm₀ (L + 3) vg) (L + 1) = some vp := (upd_ne (ad_ne (by decide))).trans e3
      have nmg₆ : ∀ {env' : Env} {W' : Wld g}, W₆.Le W' → (env'.kindOf "good" = some .cell ∨ env'.kindOf "good" = some .free) → env'.cells.lookup ("good" : Str) = some (L + 3) → Nm W'.h env' "good" vg :=
        fun l a b => nm_free (c := L + 3) (IsCell.le l (F₆.ic (by first | exact m5_1 | exact m5_2 | exact m5_3 | exact m5_4 | exact m5_5 | exact m3_1 | exact m3_2 | exact m3_3 | exact m2_1 | exact m2_2 | exact List.mem_singleton_self _ | simp) upd_at)) a b
      have icc₆ : W₆.h.IsCell (L + 2) (some vy) := by
        have z := F₆.cl (L + 2) (by first | exact m5_1 | exact m5_2 | exact m5_3 | exact m5_4 | exact m5_5 | exact m3_1 | exact m3_2 | exact m3_3 | exact m2_1 | exact m2_2 | exact List.mem_singleton_self _ | simp)
        have e : upd cm₀ (L + 3) vg (L + 2) = some vy := by
          rw [upd_ne (ad_ne (by decide))]
          have z := FV.cl (L + 2) (by first | exact m5_1 | exact m5_2 | exact m5_3 | exact m5_4 | exact m5_5 | exact m3_1 | exact m3_2 | exact m3_3 | exact m2_1 | exact m2_2 | exact List.mem_singleton_self _ | simp)
          exact IsCell.eq z.1 icc
        rw [e] at z; exact z.1
      -- other = [one for one in range(1, prime) if int_divmod(one * good[0][column], prime)[1] == 1]
      refine st_assignC (c := L + 4) (P := V (.list ((others p x).map .int))) F₆ rfl ?_ rfl (by rfl) (by rfl) (by first | exact m5_1 | exact m5_2 | exact m5_3 | exact m5_4 | exact m5_5 | exact m3_1 | exact m3_2 | exact m3_3 | exact m2_1 | exact m2_2 | exact List.mem_singleton_self _ | simp) (by with_unfolding_all rfl) ?_
      · refine EvN.frz (EvN.cast (evn_comp1 (xs := rng 1 (p - 1).toNat) (onB fun one => (one * x).fmod p == 1) id (fun _ => rfl) (by with_unfolding_all rfl) rfl (by decide) (fun C => ⟨[], .nil (fun _ _ => rfl) (fun _ => rfl), .loc (by rfl) (by rfl) (List.mem_singleton_self _)⟩)
          (Ev.srcR (a := 1) (b := p) hA.hh (ex_call2 (f := .type "range") (P₁ := V (.int 1)) (P₂ := V (.int p)) (H.builtin (hd := by decide) rfl rfl rfl (by rfl) hmr (by decide) (by decide +kernel)) rfl rfl ex_int (ex_var (h1 := by decide) (h2 := by decide) rfl (nm_free (c := L + 1) (F₆.ic (by first | exact m5_1 | exact m5_2 | exact m5_3 | exact m5_4 | exact m5_5 | exact m3_1 | exact m3_2 | exact m3_3 | exact m2_1 | exact m2_2 | exact List.mem_singleton_self _ | simp) icP) (.inl (by rfl)) (by rfl)) ip₆) fun W₁ W₂ a b l₁ l₂ p₁ p₂ => by
            cases p₁ with | int _ t => cases p₂ with | int _ u => exact ev_range2) (rgP hp).1 (rgP hp).2) ?_ fun y hy W' C v l iv nm => ?_) ?_)
        · exact sz _ (by rw [rng_len]; omega)
        · obtain ⟨one, rfl, ho1, ho2⟩ := mem_rng hy
          refine ⟨?_, fun _ => ex_var (h1 := by decide) (h2 := by decide) rfl nm iv⟩
          have hob : one ≤ 4 := by omega
          have mb := mul_bd (a := one) (b := x) (by lia) hob hxb.1 (by lia)
          refine tsts_one (tst_cmp_int (hm := by with_unfolding_all rfl) (a := (one * x).fmod p) (b := 1) ?_ ex_int fun t u s Q E h => wpAny_eq_int h)
          refine ex_dm (f := fv) D hA (ex_global (hd := by decide) rfl rfl (by rfl) H.G hmd) rfl (ex_binop_int (a := one) (b := x) (ex_var (h1 := by decide) (h2 := by decide) rfl nm iv) ?_ (fun t u s Q E nl h => P.mul_int h (IntMulOk.of_left (small_bits (by omega)))) H.nl)
            (ex_var (h1 := by decide) (h2 := by decide) rfl (nm_free (c := L + 1) (IsCell.le l (F₆.ic (by first | exact m5_1 | exact m5_2 | exact m5_3 | exact m5_4 | exact m5_5 | exact m3_1 | exact m3_2 | exact m3_3 | exact m2_1 | exact m2_2 | exact List.mem_singleton_self _ | simp) icP)) (.inl (by rfl)) (by rfl)) (ip₆.le l)) hp (by lia) (by lia)
          refine ex_item (hsub := by intro _ _; with_unfolding_all rfl) (xs := g0.map .int) (k := i) (ex_item (hsub := by intro _ _; with_unfolding_all rfl) (x := LI g0) (ex_var (h1 := by decide) (h2 := by decide) rfl (nmg₆ l (.inl (by rfl)) (by rfl)) (ig₆.le l)).sl ex_int (by decide) (by decide) rfl).sl (ex_var (h1 := by decide) (h2 := by decide) rfl (nm_free (c := L + 2) (IsCell.le l icc₆) (.inl (by rfl)) (by rfl)) (iy₆.le l)) (by lia) (by lia) ?_
          rw [List.getElem?_map, ← hx, List.getD_eq_getElem?_getD, Int.toNat_natCast, List.getElem?_eq_getElem (by lia)]; rfl
        · rw [List.map_id, rng_ints, filter_int]; rfl
      intro W₇ W₈ vo tk₈ l₇ io F₈ sp₈ hF₈
      have ig₈ : IsV W₈.F vg (.list (LI g0 :: gs.map LI)) := (ig₆.le l₇).mono sp₈.so.fz
      have ip₈ : IsV W₈.F vp (.int p) := (ip₆.le l₇).mono sp₈.so.fz
      have iy₈ : IsV W₈.F vy (.int i) := (iy₆.le l₇).mono sp₈.so.fz
      have io₈ : IsV W₈.F vo (.list ((others p x).map .int)) := io.mono sp₈.so.fz
      have icP₈ : (upd (upd cm₀ (L + 3) vg) (L + 4) vo) (L + 1) = some vp := (upd_ne (ad_ne (by decide))).trans icP
      have icG₈ : (upd (upd cm₀ (L + 3) vg) (L + 4) vo) (L + 3) = some vg := (upd_ne (ad_ne (by decide))).trans upd_at
      have icC₈ : (upd (upd cm₀ (L + 3) vg) (L + 4) vo) (L + 2) = some vy := by
        rw [upd_ne (ad_ne (by decide)), upd_ne (ad_ne (by decide))]
        exact IsCell.eq (FV.cl (L + 2) (by first | exact m5_1 | exact m5_2 | exact m5_3 | exact m5_4 | exact m5_5 | exact m3_1 | exact m3_2 | exact m3_3 | exact m2_1 | exact m2_2 | exact List.mem_singleton_self _ | simp)).1 icc
      -- if other == []: return None
      refine st_skip rfl (tst_eqc (hm := by with_unfolding_all rfl) (F₈.nmC (x := "other") (by rfl) (by rfl) (by first | exact m5_1 | exact m5_2 | exact m5_3 | exact m5_4 | exact m5_5 | exact m3_1 | exact m3_2 | exact m3_3 | exact m2_1 | exact m2_2 | exact List.mem_singleton_self _ | simp) upd_at |> fun z => (ex_var (h1 := by decide) (h2 := by decide) rfl z io₈).sh) (EvN.frz (ex_list .nil rfl (by decide))).sh (pl_shaped (pl_LI (others p x)) (by decide)) (by decide) (by have := hA.un; lia) (by rw [ho]; rfl)) fun W₉ tk₉ l₉ => ?_
      have F₉ := F₈.up l₉
      have ig₉ := ig₈.le l₉
      have ip₉ := ip₈.le l₉
      have io₉ := io₈.le l₉
      have inv_e : inv p x = iv := by unfold inv; rw [ho]; rfl
      -- first = [int_divmod(other[0] * number, prime)[1] for number in good[0]]
      refine st_assignC (c := L + 5) (P := V (LI (firstOf p i g0))) F₉ rfl ?_ rfl (by rfl) (by rfl) (by first | exact m5_1 | exact m5_2 | exact m5_3 | exact m5_4 | exact m5_5 | exact m3_1 | exact m3_2 | exact m3_3 | exact m2_1 | exact m2_2 | exact List.mem_singleton_self _ | simp) (by with_unfolding_all rfl) ?_
      · refine EvN.frz (EvN.cast (evn_map (onI fun n => .int ((inv p x * n).fmod p)) (fun _ => rfl) (by with_unfolding_all rfl) rfl (by decide) (fun C => ⟨[], .nil (fun _ _ => rfl) (fun _ => rfl), .loc (by rfl) (by rfl) (List.mem_singleton_self _)⟩)
          ((ex_item (hsub := by intro _ _; with_unfolding_all rfl) (x := LI g0) (ex_var (h1 := by decide) (h2 := by decide) rfl (F₉.nmC (by rfl) (by rfl) (by first | exact m5_1 | exact m5_2 | exact m5_3 | exact m5_4 | exact m5_5 | exact m3_1 | exact m3_2 | exact m3_3 | exact m2_1 | exact m2_2 | exact List.mem_singleton_self _ | simp) icG₈) ig₉).sl ex_int (by decide) (by decide) rfl).srcV hA.hh) (sz _ (by rw [List.length_map]; lia)) fun y hy W' C v l ivy nm => ?_) ?_)
        · obtain ⟨n, hn, rfl⟩ := List.mem_map.mp hy
          have hnb := hgb n hn
          have mb := mul_bd (a := iv) (b := n) (by lia) (by lia) hnb.1 (by lia)
          rw [inv_e]
          refine ex_dm (f := fv) (a := iv * n) D hA (ex_global (hd := by decide) rfl rfl (by rfl) H.G hmd) rfl (ex_binop_int (a := iv) (b := n) ?_ (ex_var (h1 := by decide) (h2 := by decide) rfl nm ivy) (fun t u s Q E nl h => P.mul_int h (IntMulOk.of_left (small_bits (by lia)))) H.nl)
            (ex_var (h1 := by decide) (h2 := by decide) rfl (nm_free (c := L + 1) (IsCell.le l (F₉.ic (by first | exact m5_1 | exact m5_2 | exact m5_3 | exact m5_4 | exact m5_5 | exact m3_1 | exact m3_2 | exact m3_3 | exact m2_1 | exact m2_2 | exact List.mem_singleton_self _ | simp) icP₈)) (.inl (by rfl)) (by rfl)) (ip₉.le l)) hp (by lia) (by lia)
          exact ex_item (hsub := by intro _ _; with_unfolding_all rfl) (xs := (others p x).map .int) (k := 0) (ex_var (h1 := by decide) (h2 := by decide) rfl (nm_free (c := L + 4) (IsCell.le l (F₉.ic (by first | exact m5_1 | exact m5_2 | exact m5_3 | exact m5_4 | exact m5_5 | exact m3_1 | exact m3_2 | exact m3_3 | exact m2_1 | exact m2_2 | exact List.mem_singleton_self _ | simp) upd_at)) (.inl (by rfl)) (by rfl)) (io₉.le l)).sl ex_int (by decide) (by decide) (by rw [ho]; rfl)
        · rw [List.map_map]
          unfold firstOf
          rw [hx, List.map_map]; rfl
      intro W₁₀ W₁₁ vi tk₁₁ l₁₀ ifr F₁₁ sp₁₁ hF₁₁
      have so₁₁ : Soft (leftEnv L a cd).locals W₆ W₁₁ := ((((Soft.of_le l₇).trans sp₈.so).trans (.of_le l₉)).trans (.of_le l₁₀)).trans sp₁₁.so
      have ha₁₁ : Hard W₆ W₁₁ := ((((Hard.of_le l₇).trans sp₈.ha).trans (.of_le l₉)).trans (.of_le l₁₀)).trans sp₁₁.ha
      have ig₁₁ : IsV W₁₁.F vg (.list (LI g0 :: gs.map LI)) := ig₆.mono so₁₁.fz
      have U₁₁ : UL W₁₁ R (rows.map LI) := ((UR.soft so₅).up l₆).soft so₁₁
      have icG₁₁ : (upd (upd (upd cm₀ (L + 3) vg) (L + 4) vo) (L + 5) vi) (L + 3) = some vg := (upd_ne (ad_ne (by decide))).trans icG₈
      -- rows.remove(good[0])
      refine st_method1 (D := R) (P := V (LI g0)) rfl (ex_val (h1 := by decide) (h2 := by decide) (P := fun _ v => v = .ref R) rfl (F₁₁.nm (by rfl) e1) fun _ _ => rfl) (fun W' l => ⟨_, U₁₁.up l⟩) PySem.F.slot_list_remove PySem.F.type_list_remove
        (ex_item (hsub := by intro _ _; with_unfolding_all rfl) (x := LI g0) (ex_var (h1 := by decide) (h2 := by decide) rfl (F₁₁.nmC (by rfl) (by rfl) (by first | exact m5_1 | exact m5_2 | exact m5_3 | exact m5_4 | exact m5_5 | exact m3_1 | exact m3_2 | exact m3_3 | exact m2_1 | exact m2_2 | exact List.mem_singleton_self _ | simp) icG₁₁) ig₁₁).sl ex_int (by decide) (by decide) rfl) (by rfl) (by rfl) (by rfl) (by with_unfolding_all rfl) (by with_unfolding_all rfl) fun W₁₂ v₁₂ tk₁₂ l₁₂ i₁₂ => ?_
      refine wp_remove (W := W₁₂) (y := LI g0) (j := pre.length) (n := 1) (U₁₁.up l₁₂) i₁₂ ?_ ?_ (by decide) ?_ (by have := hA.un; lia) (sz _ (by rw [List.length_map]; lia)) rfl fun W₁₃ tk₁₃ U₁₃ hF₁₃ kp₁₃ => ?_
      · rw [he, List.map_append, List.getElem?_append_right (by rw [List.length_map]; exact Nat.le_refl _), List.length_map, Nat.sub_self]; rfl
      · intro j z hj hz' q
        subst q
        rw [he, List.map_append, List.getElem?_append_left (by rw [List.length_map]; exact hj), List.getElem?_map] at hz'
        obtain ⟨r, hr, hrz⟩ := Option.map_eq_some_iff.mp hz'
        have := LI_inj hrz
        subst this
        exact hnz (hx ▸ hz _ (List.mem_of_getElem? hr))
      · intro z hz'
        obtain ⟨r, hr, rfl⟩ := List.mem_map.mp hz'
        exact pl_LI r
      obtain ⟨oR, eoR⟩ := (U₁₁.up l₁₂).lt
      obtain ⟨vsR, nR, eR', _, _⟩ := U₁₁.up l₁₂
      have eqR : oR = ({ cls := .type "list", data := .seq vsR nR } : Obj) := Option.some.inj (eoR.symm.trans eR')
      have F₁₃ : FS B W₁₃ (leftEnv L a cd) [L + 5, L + 4, L + 3, L + 2, L + 1] m₀ (upd (upd (upd cm₀ (L + 3) vg) (L + 4) vo) (L + 5) vi) :=
        (F₁₁.up l₁₂).but eR' (.inl (by rintro ⟨es, n, d⟩; cases d)) (fun v q => by cases q) e0 hF₁₃ kp₁₃
      have ha₁₃ : Hard W₁₂ W₁₃ := Hard.but eR' (by rintro ⟨vs, d⟩; cases d) hF₁₃ kp₁₃
      have fz₁₃ : ∀ b o, W₆.F b = some o → W₁₃.F b = some o := fun b o e => by rw [hF₁₃]; exact l₁₂.fz b o (so₁₁.fz b o e)
      have ip₁₃ : IsV W₁₃.F vp (.int p) := ip₆.mono fz₁₃
      have iy₁₃ : IsV W₁₃.F vy (.int i) := iy₆.mono fz₁₃
      have if₁₃ : IsV W₁₃.F vi (LI (firstOf p i g0)) := by
        have z : IsV W₁₂.F vi (LI (firstOf p i g0)) := (ifr.mono sp₁₁.so.fz).le l₁₂
        rw [hF₁₃]; exact z
      have iq₁₃ : IsV W₁₃.F vf (.list (found.map LI)) := ((fF.mono so₅.fz).le l₆).mono fz₁₃
      have icP' : (upd (upd (upd cm₀ (L + 3) vg) (L + 4) vo) (L + 5) vi) (L + 1) = some vp := (upd_ne (ad_ne (by decide))).trans icP₈
      have icC' : (upd (upd (upd cm₀ (L + 3) vg) (L + 4) vo) (L + 5) vi) (L + 2) = some vy := (upd_ne (ad_ne (by decide))).trans icC₈
      have icP₁₃ := F₁₃.ic (c := L + 1) (by first | exact m5_1 | exact m5_2 | exact m5_3 | exact m5_4 | exact m5_5 | exact m3_1 | exact m3_2 | exact m3_3 | exact m2_1 | exact m2_2 | exact List.mem_singleton_self _ | simp) icP'
      have icC₁₃ := F₁₃.ic (c := L + 2) (by first | exact m5_1 | exact m5_2 | exact m5_3 | exact m5_4 | exact m5_5 | exact m3_1 | exact m3_2 | exact m3_3 | exact m2_1 | exact m2_2 | exact List.mem_singleton_self _ | simp) icC'
      have icF₁₃ := F₁₃.ic (c := L + 5) (by first | exact m5_1 | exact m5_2 | exact m5_3 | exact m5_4 | exact m5_5 | exact m3_1 | exact m3_2 | exact m3_3 | exact m2_1 | exact m2_2 | exact List.mem_singleton_self _ | simp) upd_at
      have fb : (firstOf p i g0).length = g0.length ∧ ∀ x ∈ firstOf p i g0, 0 ≤ x ∧ x < p := firstOf_bd hp
      have er : (rows.map LI).eraseIdx pre.length = (pre ++ post).map LI := by
        rw [he, List.map_append, List.map_append, List.map_cons, List.eraseIdx_append_of_length_le (by rw [List.length_map]; exact Nat.le_refl _), List.length_map, Nat.sub_self]; rfl
      rw [er] at U₁₃
      have hrb : ∀ r ∈ pre ++ post, r.length = nc ∧ ∀ x ∈ r, 0 ≤ x ∧ x < p := fun r hr => bd.1 r (by
        rw [he]
        rcases List.mem_append.mp hr with h | h
        · exact List.mem_append_left _ h
        · exact List.mem_append_right _ (.tail _ h))
      have lpp : (pre ++ post).length ≤ 3 := by
        have : rows.length = pre.length + (post.length + 1) := by rw [he, List.length_append, List.length_cons]
        rw [List.length_append]; lia
      -- rows = [[...] for row in rows]
      refine st_comp1 (xs := (pre ++ post).map LI) (fun _ => true) (onL fun r => LI (redRow p i (firstOf p i g0) r)) F₁₃ rfl (by rfl) (by rfl) (by with_unfolding_all rfl) (fun _ => rfl) (by with_unfolding_all rfl) rfl (by decide) (fun C => ⟨[C + 1], .one "row" (fun _ _ => rfl) (fun _ => rfl), .cel (C + 1) (by rfl) (by rfl) (List.mem_singleton_self _)⟩)
        ((ex_val (h1 := by decide) (h2 := by decide) (P := SL ((pre ++ post).map LI)) rfl (F₁₃.nm (by rfl) e1) fun W' l => (U₁₃.up l).sl).srcL hA.hh) (sz _ (by rw [List.length_map]; lia)) (fun y hy W' C v l ivr nmr => ⟨tsts_nil, fun _ => ?_⟩) fun W₁₄ D₁₄ tk₁₄ F₁₄ sp₁₄ U₁₄ h0₁₄ => ?_
      · obtain ⟨r, hr, rfl⟩ := List.mem_map.mp hy
        rw [onL_LI]
        have hrl : r.length = nc := (hrb r hr).1
        have hrbd := (hrb r hr).2
        have irow : W'.h.IsCell (C + 1) (some v) := nmr.cell (by rfl) (by rfl)
        refine EvN.frz (EvN.cast (evn_map (xs := rng 0 nc) (onI fun k => .int ((r.getD k.toNat 0 - r.getD i 0 * (firstOf p i g0).getD k.toNat 0).fmod p)) (fun _ => rfl) (by with_unfolding_all rfl) rfl (by decide) (fun C => ⟨[], .nil (fun _ _ => rfl) (fun _ => rfl), .loc (by rfl) (by rfl) (List.mem_singleton_self _)⟩)
          (Ev.srcR (n := nc) hA.hh (ex_call1 (f := .type "range") (P₁ := V (.int nc)) (P := Rg 0 nc) (H.builtin (hd := by decide) rfl rfl rfl (by rfl) hmr (by decide) (by decide +kernel)) rfl rfl ?_ fun W₁ a l₁ p₁ => ev_range1I p₁) ?_ ?_) (by rw [rng_len]; exact sz _ (by lia)) fun yk hyk W₂ C₂ vk l₂ ik nmk => ?_) ?_)
        · refine (ex_call1 (f := .builtin "len") (P₁ := SL (r.map .int)) (P := V (.int (r.map PyData.int).length)) (H.builtin (hd := by decide) rfl rfl rfl (by rfl) hmn (by decide) (by decide +kernel)) rfl rfl (ex_var (h1 := by decide) (h2 := by decide) rfl nmr ivr).sl fun W₁ a l₁ p₁ => ev_len p₁ ?_).mono fun W' v l p => ?_
          · rw [List.length_map, hrl]; lia
          · rw [List.length_map, hrl] at p; exact p
        · exact (rgN hnc).1
        · exact (rgN hnc).2
        · obtain ⟨kk, rfl, hk0, hk1⟩ := mem_rng hyk
          have g1 := getD_bd hp hrbd kk.toNat
          have g2 := getD_bd hp hrbd i
          have g3 := getD_bd hp fb.2 kk.toNat
          have mb := mul_bd g2.1 (by lia) g3.1 (by lia)
          have row2 : ∀ {env' : Env} {W'' : Wld g}, W₂.Le W'' → (env'.kindOf "row" = some .cell ∨ env'.kindOf "row" = some .free) → env'.cells.lookup ("row" : Str) = some (C + 1) → Nm W''.h env' "row" v := fun l' a b => nm_free (c := C + 1) (IsCell.le l' (IsCell.le l₂ irow)) a b
          refine ex_dm (f := fv) (a := r.getD kk.toNat 0 - r.getD i 0 * (firstOf p i g0).getD kk.toNat 0) D hA (ex_global (hd := by decide) rfl rfl (by rfl) H.G hmd) rfl
            (ex_binop_int (a := r.getD kk.toNat 0) (b := r.getD i 0 * (firstOf p i g0).getD kk.toNat 0) ?_ (ex_binop_int (a := r.getD i 0) (b := (firstOf p i g0).getD kk.toNat 0) ?_ ?_ (fun t u s Q E nl h => P.mul_int h (IntMulOk.of_left (small_bits (by lia)))) H.nl) (fun t u s Q E nl h => P.sub_int h) H.nl)
            (ex_var (h1 := by decide) (h2 := by decide) rfl (nm_free (c := L + 1) (IsCell.le l₂ (IsCell.le l icP₁₃)) (.inl (by rfl)) (by rfl)) ((ip₁₃.le l).le l₂)) hp (by lia) (by lia)
          · refine ex_item (hsub := by intro _ _; with_unfolding_all rfl) (xs := r.map .int) (k := kk) (ex_var (h1 := by decide) (h2 := by decide) rfl (row2 (.refl _) (.inl (by rfl)) (by rfl)) (ivr.le l₂)).sl (ex_var (h1 := by decide) (h2 := by decide) rfl nmk ik) (by omega) (by lia) ?_
            rw [List.getElem?_map, List.getD_eq_getElem?_getD, List.getElem?_eq_getElem (by lia)]; rfl
          · refine ex_item (hsub := by intro _ _; with_unfolding_all rfl) (xs := r.map .int) (k := i) (ex_var (h1 := by decide) (h2 := by decide) rfl (row2 (.refl _) (.inl (by rfl)) (by rfl)) (ivr.le l₂)).sl (ex_var (h1 := by decide) (h2 := by decide) rfl (nm_free (c := L + 2) (IsCell.le l₂ (IsCell.le l icC₁₃)) (.inl (by rfl)) (by rfl)) ((iy₁₃.le l).le l₂)) (by lia) (by lia) ?_
            rw [List.getElem?_map, List.getD_eq_getElem?_getD, Int.toNat_natCast, List.getElem?_eq_getElem (by lia)]; rfl
          · refine ex_item (hsub := by intro _ _; with_unfolding_all rfl) (xs := (firstOf p i g0).map .int) (k := kk) (ex_var (h1 := by decide) (h2 := by decide) rfl (nm_free (c := L + 5) (IsCell.le l₂ (IsCell.le l icF₁₃)) (.inl (by rfl)) (by rfl)) ((if₁₃.le l).le l₂)).sl (ex_var (h1 := by decide) (h2 := by decide) rfl nmk ik) (by omega) (by lia) ?_
            have fl : (firstOf p i g0).length = nc := fb.1.trans hgl
            rw [List.getElem?_map, List.getD_eq_getElem?_getD, List.getElem?_eq_getElem (by omega)]; rfl
        · rw [rng_map]
          unfold redRow
          rw [hrl, List.map_map]
          refine List.map_congr_left fun k hk => ?_
          show PyData.int _ = _
          rw [Int.zero_add, Int.toNat_natCast]; rfl
      have ip₁₄ := ip₁₃.mono sp₁₄.so.fz
      have iy₁₄ := iy₁₃.mono sp₁₄.so.fz
      have if₁₄ := if₁₃.mono sp₁₄.so.fz
      have iq₁₄ := iq₁₃.mono sp₁₄.so.fz
      have icP₁₄ := F₁₄.ic (c := L + 1) (by first | exact m5_1 | exact m5_2 | exact m5_3 | exact m5_4 | exact m5_5 | exact m3_1 | exact m3_2 | exact m3_3 | exact m2_1 | exact m2_2 | exact List.mem_singleton_self _ | simp) icP'
      have icC₁₄ := F₁₄.ic (c := L + 2) (by first | exact m5_1 | exact m5_2 | exact m5_3 | exact m5_4 | exact m5_5 | exact m3_1 | exact m3_2 | exact m3_3 | exact m2_1 | exact m2_2 | exact List.mem_singleton_self _ | simp) icC'
      have icF₁₄ := F₁₄.ic (c := L + 5) (by first | exact m5_1 | exact m5_2 | exact m5_3 | exact m5_4 | exact m5_5 | exact m3_1 | exact m3_2 | exact m3_3 | exact m2_1 | exact m2_2 | exact List.mem_singleton_self _ | simp) upd_at
      have hrb := bd.2
      have e1' : ((((pre ++ post).map LI).filter fun _ => true).map (onL fun r => LI (redRow p i (firstOf p i g0) r))) = ((pre ++ post).map (redRow p i (firstOf p i g0))).map LI := by
        rw [List.filter_eq_self.mpr (fun _ _ => rfl), List.map_map, List.map_map]
        exact List.map_congr_left fun r _ => onL_LI _ r
      rw [e1'] at U₁₄
      -- found = [...] + [first]
      refine st_assign (P := V (.list ((found.map (redRow p i (firstOf p i g0)) ++ [firstOf p i g0]).map LI))) F₁₄ rfl ?_ (by rfl) (by rfl) (by with_unfolding_all rfl) ?_
      · refine EvN.frz (EvN.cast (evn_addE (xs := (found.map LI).map (onL fun r => LI (redRow p i (firstOf p i g0) r))) (ys := [LI (firstOf p i g0)]) (EvN.sl (evn_map _ (fun _ => rfl) (by with_unfolding_all rfl) rfl (by decide) (fun C => ⟨[C + 1], .one "row" (fun _ _ => rfl) (fun _ => rfl), .cel (C + 1) (by rfl) (by rfl) (List.mem_singleton_self _)⟩)
          ((ex_var (h1 := by decide) (h2 := by decide) rfl (F₁₄.nm (by rfl) ((upd_ne (by decide)).trans e2)) iq₁₄).srcV hA.hh) (sz _ (by rw [List.length_map]; lia)) fun y hy W' C v l ivr nmr => ?_)) (EvN.sl (ex_list (.cons (ex_var (h1 := by decide) (h2 := by decide) rfl (F₁₄.nmC (by rfl) (by rfl) (by first | exact m5_1 | exact m5_2 | exact m5_3 | exact m5_4 | exact m5_5 | exact m3_1 | exact m3_2 | exact m3_3 | exact m2_1 | exact m2_2 | exact List.mem_singleton_self _ | simp) upd_at) if₁₄) .nil) rfl (sz 1 (by decide)))) (sz _ (by rw [List.length_map, List.length_map]; show found.length + 1 ≤ 1000; lia))) ?_)
        · obtain ⟨r, hr, rfl⟩ := List.mem_map.mp hy
          rw [onL_LI]
          have hrl : r.length = nc := (hrb r hr).1
          have hrbd := (hrb r hr).2
          have irow : W'.h.IsCell (C + 1) (some v) := nmr.cell (by rfl) (by rfl)
          refine EvN.frz (EvN.cast (evn_map (xs := rng 0 nc) (onI fun k => .int ((r.getD k.toNat 0 - r.getD i 0 * (firstOf p i g0).getD k.toNat 0).fmod p)) (fun _ => rfl) (by with_unfolding_all rfl) rfl (by decide) (fun C => ⟨[], .nil (fun _ _ => rfl) (fun _ => rfl), .loc (by rfl) (by rfl) (List.mem_singleton_self _)⟩)
            (Ev.srcR (n := nc) hA.hh (ex_call1 (f := .type "range") (P₁ := V (.int nc)) (P := Rg 0 nc) (H.builtin (hd := by decide) rfl rfl rfl (by rfl) hmr (by decide) (by decide +kernel)) rfl rfl ?_ fun W₁ a l₁ p₁ => ev_range1I p₁) ?_ ?_) (by rw [rng_len]; exact sz _ (by lia)) fun yk hyk W₂ C₂ vk l₂ ik nmk => ?_) ?_)
          · refine (ex_call1 (f := .builtin "len") (P₁ := SL (r.map .int)) (P := V (.int (r.map PyData.int).length)) (H.builtin (hd := by decide) rfl rfl rfl (by rfl) hmn (by decide) (by decide +kernel)) rfl rfl (ex_var (h1 := by decide) (h2 := by decide) rfl nmr ivr).sl fun W₁ a l₁ p₁ => ev_len p₁ ?_).mono fun W' v l p => ?_
            · rw [List.length_map, hrl]; lia
            · rw [List.length_map, hrl] at p; exact p
          · exact (rgN hnc).1
          · exact (rgN hnc).2
          · obtain ⟨kk, rfl, hk0, hk1⟩ := mem_rng hyk
            have g1 := getD_bd hp hrbd kk.toNat
            have g2 := getD_bd hp hrbd i
            have g3 := getD_bd hp fb.2 kk.toNat
            have mb := mul_bd g2.1 (by lia) g3.1 (by lia)
            have row2 : ∀ {env' : Env} {W'' : Wld g}, W₂.Le W'' → (env'.kindOf "row" = some .cell ∨ env'.kindOf "row" = some .free) → env'.cells.lookup ("row" : Str) = some (C + 1) → Nm W''.h env' "row" v := fun l' a b => nm_free (c := C + 1) (IsCell.le l' (IsCell.le l₂ irow)) a b
            refine ex_dm (f := fv) (a := r.getD kk.toNat 0 - r.getD i 0 * (firstOf p i g0).getD kk.toNat 0) D hA (ex_global (hd := by decide) rfl rfl (by rfl) H.G hmd) rfl
              (ex_binop_int (a := r.getD kk.toNat 0) (b := r.getD i 0 * (firstOf p i g0).getD kk.toNat 0) ?_ (ex_binop_int (a := r.getD i 0) (b := (firstOf p i g0).getD kk.toNat 0) ?_ ?_ (fun t u s Q E nl h => P.mul_int h (IntMulOk.of_left (small_bits (by lia)))) H.nl) (fun t u s Q E nl h => P.sub_int h) H.nl)
              (ex_var (h1 := by decide) (h2 := by decide) rfl (nm_free (c := L + 1) (IsCell.le l₂ (IsCell.le l icP₁₄)) (.inl (by rfl)) (by rfl)) ((ip₁₄.le l).le l₂)) hp (by lia) (by lia)
            · refine ex_item (hsub := by intro _ _; with_unfolding_all rfl) (xs := r.map .int) (k := kk) (ex_var (h1 := by decide) (h2 := by decide) rfl (row2 (.refl _) (.inl (by rfl)) (by rfl)) (ivr.le l₂)).sl (ex_var (h1 := by decide) (h2 := by decide) rfl nmk ik) (by omega) (by lia) ?_
              rw [List.getElem?_map, List.getD_eq_getElem?_getD, List.getElem?_eq_getElem (by lia)]; rfl
            · refine ex_item (hsub := by intro _ _; with_unfolding_all rfl) (xs := r.map .int) (k := i) (ex_var (h1 := by decide) (h2 := by decide) rfl (row2 (.refl _) (.inl (by rfl)) (by rfl)) (ivr.le l₂)).sl (ex_var (h1 := by decide) (h2 := by decide) rfl (nm_free (c := L + 2) (IsCell.le l₂ (IsCell.le l icC₁₄)) (.inl (by rfl)) (by rfl)) ((iy₁₄.le l).le l₂)) (by lia) (by lia) ?_
              rw [List.getElem?_map, List.getD_eq_getElem?_getD, Int.toNat_natCast, List.getElem?_eq_getElem (by lia)]; rfl
            · refine ex_item (hsub := by intro _ _; with_unfolding_all rfl) (xs := (firstOf p i g0).map .int) (k := kk) (ex_var (h1 := by decide) (h2 := by decide) rfl (nm_free (c := L + 5) (IsCell.le l₂ (IsCell.le l icF₁₄)) (.inl (by rfl)) (by rfl)) ((if₁₄.le l).le l₂)).sl (ex_var (h1 := by decide) (h2 := by decide) rfl nmk ik) (by omega) (by lia) ?_
              have fl : (firstOf p i g0).length = nc := fb.1.trans hgl
              rw [List.getElem?_map, List.getD_eq_getElem?_getD, List.getElem?_eq_getElem (by lia)]; rfl
          · rw [rng_map]
            unfold redRow
            rw [hrl, List.map_map]
            refine List.map_congr_left fun k hk => ?_
            show PyData.int _ = _
            rw [Int.zero_add, Int.toNat_natCast]; rfl
        · rw [List.map_append, List.map_map, List.map_map]
          exact congrArg (· ++ _) (List.map_congr_left fun r _ => onL_LI _ r)
      intro W₁₅ W₁₆ vn tk₁₆ l₁₅ in₁₅ F₁₆ sp₁₆ hF₁₆
      have so₁₆ : Soft (leftEnv L a cd).locals W₁₄ W₁₆ := (Soft.of_le l₁₅).trans sp₁₆.so
      refine wpAny_execs_nil (wpAny_execs_nil (hQ _ _ ⟨W₁₆, _, _, _, rfl, F₁₆, ⟨D₁₄, vn, vp, F₁₃.le.none h0₁₄, (upd_ne (by decide)).trans upd_at, ?_, upd_at, ?_, icP', ip₁₄.mono so₁₆.fz⟩, ?_⟩))
      · rw [hstep]; unfold lstep; rw [hdw, htw]
        exact U₁₄.soft so₁₆
      · rw [hstep]; unfold lstep; rw [hdw]
        exact in₁₅.mono sp₁₆.so.fz
      · exact (((((ha₅.trans (.of_le l₆)).trans ha₁₁).trans (.of_le l₁₂)).trans ha₁₃).trans sp₁₄.ha).trans ((Hard.of_le l₁₅).trans sp₁₆.ha)
    · intro hb W₆ tk₆ l₆
      rcases split_filter i rows with ⟨hf, hd⟩ | ⟨pre, g0, post, gs, he, hf, _⟩
      · refine wpAny_execs_nil (wpAny_execs_nil (hQ _ _ ⟨W₆, _, _, _, rfl, F₅.up l₆, ⟨R, vf, vp, e0, e1, ?_, e2, ?_, (upd_ne ?_).trans e3, (pF.mono so₅.fz).le l₆⟩, ha₅.trans (.of_le l₆)⟩))
        · rw [hstep]; unfold lstep; rw [hd]
          exact (UR.soft so₅).up l₆
        · rw [hstep]; unfold lstep; rw [hd]
          exact (fF.mono so₅.fz).le l₆
        · exact fun q => absurd q (by intro q; have := Nat.add_left_cancel q; omega)
      · rw [hf] at hb
        cases hb
  · rintro W' m' cm' tk F' ⟨R, vf, vp, e0, e1, U, e2, f, e3, q⟩
    rw [rng_len] at f
    exact st_return rfl (ex_var (h1 := by decide) (h2 := by decide) rfl (F'.nm (by rfl) e2) f) fun W'' v tk l p => k W'' v tk (F'.le.trans l) p

theorem left_call {a : Addr} {cd : Value} {T : List (List Int)} {p : Int} {nc : Nat} {vt vp fv : Value} (H : Gd g mg mb) (hA : Ok 13 A) (D : DmOk prog w g fv) (fn : FnAt g a "_law_left" (fdef 12) cd)
    (it : IsV W.F vt (.list (T.map LI))) (ip : IsV W.F vp (.int p)) (hp : PrimeOk p) (hT : Bd p nc T) (hne : T ≠ []) (hnT : T.length ≤ 3) (hnc : nc ≤ 3)
    (hmd : mg "int_divmod" = some fv) (hml : mg "list" = none) (hmn : mg "len" = none) (hmr : mg "range" = none) : Ev prog w A (call (.ref a) [vt, vp]) W (V (.list ((leftOf p nc T).map LI))) := by
  refine ev_def (hco := by rfl) (hgen := by rfl) (hk := by rfl) (n := 12) (binds := [("table", vt), ("prime", vp)]) hA fn H.nl (fun _ _ => by rfl) (fun L => ?_) (fun L => ?_) fun B W₁ L m cm s Q E lB lW hs F hm hc k => ?_
  · exact List.forall_mem_cons.mpr ⟨.inl (by rfl), List.forall_mem_cons.mpr ⟨.inr ⟨by rfl, by rfl⟩, fun _ h => nomatch h⟩⟩
  · exact List.forall_mem_cons.mpr ⟨by rfl, List.forall_mem_cons.mpr ⟨by rfl, List.forall_mem_cons.mpr ⟨by rfl, List.forall_mem_cons.mpr ⟨by rfl, List.forall_mem_cons.mpr ⟨by rfl, fun _ h => nomatch h⟩⟩⟩⟩⟩
  · refine left_body (L := L) (a := a) (cd := cd) H hA.deeper D hs F ((hm _).trans (by rfl)) ((hc "prime" (L + 1) (by rfl)).trans (by rfl)) (it.le (lB.trans lW)) (ip.le (lB.trans lW)) hp hT hne hnT hnc hmd hml hmn hmr fun W' v' tk l p => k W' v' tk l p
end
end Mine
namespace Mine
/- a def made within a call, as its object stands -/
noncomputable def FnI (F : Fz) (f : Addr) (name qual : Str) (st : Stmt) (cl : List (Str × Addr)) : Prop :=
  ∃ fo doc pm ct c', F f = some fo ∧ fo.data = .func (fnX name qual (paramsOf st) (bodyOf st) (scopeOf st) cl .none .none doc pm none (.ref c') ct) ∧ IsCd F c' qual
theorem FnI.mono {F F' : Fz} {f : Addr} {name qual : Str} {st : Stmt} {cl : List (Str × Addr)} (x : FnI F f name qual st cl) (k : ∀ b o, F b = some o → F' b = some o) : FnI F' f name qual st cl :=
  let ⟨fo, doc, pm, ct, c', e, d, c⟩ := x; ⟨fo, doc, pm, ct, c', k _ _ e, d, c.mono k⟩
section
variable {g : Heap} {prog : Program} {w : World} {A : Around} {B B' W W' : Wld g} {env : Env} {own : List Addr} {m : Str → Option Value} {cm : Addr → Option Value} {s : Shared} {rest : List Stmt}

theorem FS.rebase (F : FS B W env own m cm) (l : B'.Le B) : FS B' W env own m cm :=
  ⟨l.trans F.le, F.loc, F.locF, l.none F.loc0, fun c hc => ⟨(F.cl c hc).1, (F.cl c hc).2.1, l.none (F.cl c hc).2.2⟩⟩

/- a def's call, whatever it does -/
theorem wp_def {f : Addr} {fo : Obj} {fd : FuncData} {body : List Stmt} {args : List Value} {binds : List (Str × Value)} {Q : Value → Shared → Prop} {E : Value → Shared → Prop} (hs : s.heap = W.h) (hroom : A.depth < recursionLimit) (ho : W.h.get? f = some fo) (hd : fo.data = .func fd) (nl : g.NoLimit)
    (hcd : W.h.CodeRec fd.code fd.qualname) (hbody : fd.body = .stmts body) (hbind : BindsTo s fd ⟨args, []⟩ binds)
    (hcell : ∀ x ∈ fd.scope.names, x.2 ≠ .cell) (hloc : ∀ x ∈ binds, fd.scope.names.lookup x.1 = some .local)
    (k : ∀ (W₁ : Wld g) (L : Addr) tk, W.Le W₁ → W₁.F = W.F → FS W W₁ (callEnv fd L f) [] (fun x => binds.reverse.lookup x) (fun _ => none) →
      wpAny (model prog w) (A.deeper (callEnv fd L f)) (execs body (callEnv fd L f)) (fun fl s' => Q (match fl with | .ret v => v | _ => .none) s') (fun _ _ => False) { s with heap := W₁.h, toks := tk })
    (hco : fd.scope.isCoroutine = false) (hgen : fd.scope.isGenerator = false) (hk : fd.scope.kind = .function) :
    wpAny (model prog w) A (call (.ref f) args) Q E s := by
  refine wpAny_call (codeAny_call_def (fd := fd) (body := body) (binds := binds) hroom (by rw [hs]; exact ho) hd (nl.keeps fun b o e => by rw [hs]; exact W.old e) (by rw [hs]; exact hcd) hbody hbind hcell hloc (fun h₁ ns kp => ?_) hco hgen hk)
  have kp' : ∀ b o, W.h.get? b = some o → h₁.get? b = some o := fun b o e => kp b o (by rw [hs]; exact e)
  let W₁ := W.grow h₁ kp'
  have l₁ : W.Le W₁ := W.grow_le h₁ kp'
  have out : W.h.get? s.heap.objs.size = none := W.new_none (by rw [hs]; exact Nat.le_refl _)
  refine wpAny_mono (k W₁ s.heap.objs.size _ l₁ rfl ⟨l₁, ns, Wld.F_none (W := W) out, out, fun c hc => nomatch hc⟩) (fun _ _ x => x) fun _ _ x => x.elim

/- a def within a def -/
theorem tab_one {F F' : Fz} {h h' : Heap} {P : Addr} {line col : Nat} {q : Str} (hP : (P = 30 ∧ line = 32 ∧ col = 4 ∧ q = ("_int2digits.<locals>.inner" : Str)) ∨ (P = 37 ∧ line = 47 ∧ col = 4 ∧ q = ("_digits2int.<locals>.inner" : Str))) (T : Tab F h) (n : TabOne F' h' P line col q)
    (kp : ∀ b o, b ≠ P → h.get? b = some o → h'.get? b = some o) (fz : ∀ b o, F b = some o → F' b = some o) : Tab F' h' := by
  rcases hP with ⟨rfl, rfl, rfl, rfl⟩ | ⟨rfl, rfl, rfl, rfl⟩
  · obtain ⟨p2, e2, r⟩ := T.2
    exact ⟨n, p2, kp _ _ (by decide) e2, r.imp id fun ⟨c, e, z⟩ => ⟨c, e, z.mono fz⟩⟩
  · obtain ⟨p2, e2, r⟩ := T.1
    exact ⟨⟨p2, kp _ _ (by decide) e2, r.imp id fun ⟨c, e, z⟩ => ⟨c, e, z.mono fz⟩⟩, n⟩
theorem tab_at {F : Fz} {h : Heap} {P : Addr} {line col : Nat} {q : Str} (hP : (P = 30 ∧ line = 32 ∧ col = 4 ∧ q = ("_int2digits.<locals>.inner" : Str)) ∨ (P = 37 ∧ line = 47 ∧ col = 4 ∧ q = ("_digits2int.<locals>.inner" : Str))) (T : Tab F h) : TabOne F h P line col q := by
  rcases hP with ⟨rfl, rfl, rfl, rfl⟩ | ⟨rfl, rfl, rfl, rfl⟩
  · exact T.1
  · exact T.2
theorem st_nest0 {mg : Str → Option Value} {name qual : Str} {params : Arguments} {body : List Stmt} {scope : Scope} {pos : Pos} {line col : Nat} {c P cc : Addr} {clos : List (Str × Addr)} {Q : Flow → Shared → Prop} {E : Value → Shared → Prop}
    (F : FS B W env own m cm) (hs : s.heap = W.h) (hk : env.scope.kind = .function) (hx : env.kindOf name = some .cell) (hc : env.cells.lookup name = some cc) (ho : cc ∈ own) (hge : env.globals = mainGlobals) (hcode : env.code = .ref c)
    (C : CodeHd g c P) (hP : (P = 30 ∧ line = 32 ∧ col = 4 ∧ qual = ("_int2digits.<locals>.inner" : Str)) ∨ (P = 37 ∧ line = 47 ∧ col = 4 ∧ qual = ("_digits2int.<locals>.inner" : Str))) (hl : pos.line = line) (hcc : pos.col = col) (hq : qualnameIn env name name = qual)
    (hcl : closureFor scope env = pure clos) (G : g.Ns mainGlobals mg) (hb : ∃ bm ob, mg "__builtins__" = some (.ref bm) ∧ bm ≠ builtinsNs ∧ g.get? bm = some ob ∧ ob.cls = .type "module" ∧ ob.dict = some builtinsNs ∧ ob.data = .plain)
    (hd0 : params.defaults = []) (hk0 : params.kw_defaults = []) (ha : annTrees params none env = [])
    (k : ∀ (W₂ : Wld g) f tk, FS B W₂ env own m (upd cm cc (.ref f)) → Step env.locals W W₂ → FnI W₂.F f name qual (.FunctionDef name params body [] none [] scope none name pos) clos → wpAny (model prog w) A (execs rest env) Q E { s with heap := W₂.h, toks := tk }) :
    wpAny (model prog w) A (execs (.FunctionDef name params body [] none [] scope none name pos :: rest) env) Q E s := by
  refine wpAny_execs_cons (nestDef_K hd0 hk0 ha ?_)
  rw [hq]
  obtain ⟨bm, ob, b1, b2, b3, b4, b5, b6⟩ := hb
  have up : ∀ b o, g.get? b = some o → s.heap.get? b = some o := fun b o e => by rw [hs]; exact W.old e
  have Gs := G.keeps up
  have tabP : TabOne W.F W.h P line col qual := tab_at hP W.tab
  have offP : W.F P = none := hP.elim (fun z => z.1 ▸ W.off.1) fun z => z.1 ▸ W.off.2
  have gP : g.get? P = none := by
    cases q : g.get? P with
    | none => rfl
    | some o => rw [W.base _ _ q] at offP; cases offP
  have hgP : mainGlobals ≠ P := fun q => by
    obtain ⟨o, es, ep, e, _⟩ := G
    rw [q, gP] at e; cases e
  have hbP : bm ≠ P := fun q => by rw [q, gP] at b3; cases b3
  have hbG : bm ≠ mainGlobals := fun q => by
    obtain ⟨o, es, ep, e, hd, _⟩ := G
    rw [q, e] at b3; cases b3; rw [hd] at b6; cases b6
  have BA : s.heap.BuiltinsAt mg P := ⟨bm, ob, b1, b2, hbG, hbP, up _ _ b3, b4, b5, b6⟩
  obtain ⟨ps, eP, hps⟩ := tabP
  have ePs : s.heap.get? P = some (tabObj ps) := by rw [hs]; exact eP
  -- what is left once the object stands
  have fin : ∀ (Wa : Wld g) (f : Addr) (fo : Obj) (doc pm ct : Value) (c' : Addr) tk, W.Le Wa → Wa.h.get? f = some fo → W.h.get? f = none → Wa.F f = none → f ≠ 30 → f ≠ 37 → fo.data = .func (fnX name qual params body scope clos .none .none doc pm none (.ref c') ct) → IsCd Wa.F c' qual →
      wpAny (model prog w) A (storeName env name (.ref f)) (fun _ s'' => wpAny (model prog w) A (execs rest env) Q E s'') E { s with heap := Wa.h, toks := tk } := by
    intro Wa f fo doc pm ct c' tk la ef h0 hF h1 h2 hd hcd
    let Wb := Wa.freeze f fo ef h1 h2 hF
    have lb : W.Le Wb := la.freeze ef h1 h2 hF h0
    refine (F.up lb).storeC (s := { s with heap := Wa.h, toks := tk }) rfl hk hx hc ho fun W₂ tk₂ F₂ st hF₂ => ?_
    refine k W₂ f tk₂ F₂ ((Step.of_le lb).trans st) ⟨fo, doc, pm, ct, c', ?_, hd, ?_⟩
    · rw [hF₂]; exact Wld.freeze_at
    · rw [hF₂]; exact hcd.mono Wld.freeze_fz
  have sz : ∀ b, s.heap.objs.size ≤ b → W.h.get? b = none := fun b hb => W.new_none (by rw [← hs]; exact hb)
  have tl : (30 : Nat) < s.heap.objs.size ∧ (37 : Nat) < s.heap.objs.size := by
    obtain ⟨p1, e1, _⟩ := W.tab.1
    obtain ⟨p2, e2, _⟩ := W.tab.2
    rw [← hs] at e1 e2
    exact ⟨Heap.lt_size e1, Heap.lt_size e2⟩
  rcases hps with rfl | ⟨c', rfl, hcd⟩
  · refine makeFunction_K (mg := mg) (ps := #[]) hcl hge Gs hcode (C.keeps up) ePs trivial rfl hgP BA fun c' ctv doc h' tk hx' hge' hlt hrec htb => ?_
    obtain ⟨c₂, oc, vs, t, e2, hoc, hdc, hv⟩ := hrec
    cases e2
    have nP : ∀ b o, b ≠ P → W.h.get? b = some o → h'.get? b = some o := fun b o hb e => hx' b o hb (by rw [hs]; exact e)
    have c0 : W.h.get? c' = none := sz _ hge'
    have Fc : W.F c' = none := Wld.F_none c0
    let fo : Obj := fnMade name qual params body scope clos doc ((mg "__name__").getD .none) c' ctv
    have hne : c' ≠ P := fun q => by rw [q, eP] at c0; cases c0
    have tP : (h'.push fo).get? P = some (tabObj #[rawInt line, rawInt col, .ref c']) := by
      have z := Heap.get?_push_of_some fo htb
      rw [hl, hcc] at z
      exact z
    let F' : Fz := fun b => if b = c' then some oc else W.F b
    have F'k : ∀ b o, W.F b = some o → F' b = some o := fun b o e => by
      show (if b = c' then some oc else W.F b) = some o
      by_cases hb : b = c'
      · subst hb; rw [Fc] at e; cases e
      · rw [if_neg hb]; exact e
    have F'c : F' c' = some oc := if_pos rfl
    have cdc : IsCd F' c' qual := ⟨oc, vs, t, F'c, hdc, hv⟩
    let Wa : Wld g := {
      F := F'
      h := h'.push fo
      inn := fun b o e => by
        have e' : (if b = c' then some oc else W.F b) = some o := e
        by_cases hb : b = c'
        · subst hb; rw [if_pos rfl] at e'; cases e'; exact Heap.get?_push_of_some _ hoc
        · rw [if_neg hb] at e'
          exact Heap.get?_push_of_some _ (nP b o (fun q => by subst q; rw [offP] at e'; cases e') (W.inn b o e'))
      base := fun b o e => F'k b o (W.base b o e)
      off := by
        have h1 : (30 : Nat) ≠ c' := Nat.ne_of_lt (Nat.lt_of_lt_of_le tl.1 hge')
        have h2 : (37 : Nat) ≠ c' := Nat.ne_of_lt (Nat.lt_of_lt_of_le tl.2 hge')
        exact ⟨(if_neg h1).trans W.off.1, (if_neg h2).trans W.off.2⟩
      tab := by
        exact tab_one hP W.tab ⟨_, tP, .inr ⟨c', rfl, cdc⟩⟩ (fun b o h e => Heap.get?_push_of_some _ (nP b o h e)) F'k }
    have la : W.Le Wa := ⟨F'k, fun b o h1 h2 e => Heap.get?_push_of_some _ (nP b o (by
        exact fun q => hP.elim (fun z => h1 (q.trans z.1)) fun z => h2 (q.trans z.1)) e), fun b o e => by
        have e' : (if b = c' then some oc else W.F b) = some o := e
        by_cases hb : b = c'
        · subst hb; exact .inr c0
        · rw [if_neg hb] at e'; exact .inl e'⟩
    have hsz : s.heap.objs.size ≤ h'.objs.size := Nat.le_of_lt (Nat.lt_of_le_of_lt hge' hlt)
    have f0 : W.h.get? h'.objs.size = none := sz _ hsz
    exact fin Wa h'.objs.size fo doc _ ctv c' tk la (Heap.get?_push_size _ rfl) f0 ((if_neg (Nat.ne_of_gt hlt)).trans (Wld.F_none f0)) (Nat.ne_of_gt (Nat.lt_of_lt_of_le tl.1 hsz)) (Nat.ne_of_gt (Nat.lt_of_lt_of_le tl.2 hsz)) rfl cdc
  · refine makeFunction_hit (mg := mg) (ps := #[rawInt line, rawInt col, .ref c']) (cv := .ref c') hcl hge Gs hcode (C.keeps up) ePs trivial ?_ BA fun ctv doc h' tk hx' hge' => ?_
    · rw [← hl, ← hcc]
      exact codeAmong_snoc [] trivial rfl
    have kp : ∀ b o, W.h.get? b = some o → (h'.push ({ cls := .type "function", data := .func (fnX name qual params body scope clos .none .none doc ((mg "__name__").getD .none) none (.ref c') ctv) } : Obj)).get? b = some o :=
      fun b o e => Heap.get?_push_of_some _ (hx' b o (by rw [hs]; exact e))
    have f0 : W.h.get? h'.objs.size = none := sz _ hge'
    exact fin (W.grow _ kp) h'.objs.size _ doc _ ctv c' tk (W.grow_le _ kp) (Heap.get?_push_size _ rfl) f0 (Wld.F_none (W := W) f0) (Nat.ne_of_gt (Nat.lt_of_lt_of_le tl.1 hge')) (Nat.ne_of_gt (Nat.lt_of_lt_of_le tl.2 hge')) rfl hcd
theorem st_nest {t0 : Nat} {mg : Str → Option Value} {name qual : Str} {params : Arguments} {body : List Stmt} {scope : Scope} {pos : Pos} {line col : Nat} {c P cc : Addr} {clos : List (Str × Addr)} {Q : Flow → Shared → Prop} {E : Value → Shared → Prop}
    (F : FS B W env own m cm) (_hs : W.h = W.h) (hk : env.scope.kind = .function) (hx : env.kindOf name = some .cell) (hc : env.cells.lookup name = some cc) (ho : cc ∈ own) (hge : env.globals = mainGlobals) (hcode : env.code = .ref c)
    (C : CodeHd g c P) (hP : (P = 30 ∧ line = 32 ∧ col = 4 ∧ qual = ("_int2digits.<locals>.inner" : Str)) ∨ (P = 37 ∧ line = 47 ∧ col = 4 ∧ qual = ("_digits2int.<locals>.inner" : Str))) (hl : pos.line = line) (hcc : pos.col = col) (hq : qualnameIn env name name = qual)
    (hcl : closureFor scope env = pure clos) (G : g.Ns mainGlobals mg) (hb : ∃ bm ob, mg "__builtins__" = some (.ref bm) ∧ bm ≠ builtinsNs ∧ g.get? bm = some ob ∧ ob.cls = .type "module" ∧ ob.dict = some builtinsNs ∧ ob.data = .plain)
    (hd0 : params.defaults = []) (hk0 : params.kw_defaults = []) (ha : annTrees params none env = [])
    (k : ∀ (W₂ : Wld g) f tk, FS B W₂ env own m (upd cm cc (.ref f)) → Step env.locals W W₂ → FnI W₂.F f name qual (.FunctionDef name params body [] none [] scope none name pos) clos → wpAny (model prog w) A (execs rest env) Q E { s with heap := W₂.h, toks := tk }) :
    wpAny (model prog w) A (execs (.FunctionDef name params body [] none [] scope none name pos :: rest) env) Q E { s with heap := W.h, toks := t0 } := st_nest0 (s := { s with heap := W.h, toks := t0 }) F rfl hk hx hc ho hge hcode C hP hl hcc hq hcl G hb hd0 hk0 ha k
end
end Mine
namespace Mine
section
variable {g : Heap} {prog : Program} {w : World} {A : Around} {B B' W W' : Wld g} {env : Env} {own : List Addr} {m : Str → Option Value} {cm : Addr → Option Value} {s : Shared} {rest : List Stmt}

/- a sequence at D, not frozen -/
noncomputable def Un (W : Wld g) (D : Addr) : Prop := ∃ o, W.h.get? D = some o ∧ isSeq o ∧ W.F D = none
/- the world without it -/
noncomputable def Wld.hide (W : Wld g) (D : Addr) (U : Un W D) : Wld g where
  F := W.F
  h := hideAll W.h [D]
  inn := fun a o e => hideAll_get _ (W.inn a o e) fun q => by
    obtain ⟨_, _, _, f⟩ := U
    rw [List.mem_singleton.mp q, f] at e; cases e
  base := W.base
  off := W.off
  tab := by
    obtain ⟨o, e, sq, f⟩ := U
    have nt := W.not_tab e sq.mv
    refine ⟨?_, ?_⟩
    · obtain ⟨ps, e', r⟩ := W.tab.1
      exact ⟨ps, hideAll_get _ e' fun q => nt.1 (List.mem_singleton.mp q).symm, r⟩
    · obtain ⟨ps, e', r⟩ := W.tab.2
      exact ⟨ps, hideAll_get _ e' fun q => nt.2 (List.mem_singleton.mp q).symm, r⟩
theorem hide_le {D : Addr} {U : Un W D} : (W.hide D U).Le W := ⟨fun _ _ e => e, fun b o _ _ e => of_hideAll _ e, fun _ _ e => .inl e⟩
theorem hide_none {D : Addr} {U : Un W D} : (W.hide D U).h.get? D = none := hideAll_none _ (List.mem_singleton.mpr rfl)
theorem hide_get {D : Addr} {U : Un W D} {b : Addr} {o : Obj} (e : W.h.get? b = some o) (h : b ≠ D) : (W.hide D U).h.get? b = some o := hideAll_get _ e fun q => h (List.mem_singleton.mp q)
theorem le_hide {D : Addr} {U : Un W D} (l : B.Le W) (h : B.h.get? D = none) : B.Le (W.hide D U) :=
  ⟨l.fz, fun b o h1 h2 e => hide_get (l.keep b o h1 h2 e) (fun q => by subst q; rw [h] at e; cases e), l.new⟩
theorem cell_hide {D c : Addr} {U : Un W D} {v : Option Value} (x : W.h.IsCell c v) : (W.hide D U).h.IsCell c v := by
  obtain ⟨o, e, d⟩ := x
  refine ⟨o, hide_get e (fun q => ?_), d⟩
  subst q
  obtain ⟨o', e', ⟨vs, n, d'⟩, _⟩ := U
  rw [e] at e'; cases e'; rw [d] at d'; cases d'
theorem FS.hide {D : Addr} {U : Un W D} (F : FS B W env own m cm) (h : B.h.get? D = none) : FS B (W.hide D U) env own m cm := by
  refine ⟨le_hide F.le h, ?_, F.locF, F.loc0, fun c hc => ⟨cell_hide (F.cl c hc).1, (F.cl c hc).2⟩⟩
  obtain ⟨o, es, ep, e, d, r⟩ := F.loc
  refine ⟨o, es, ep, hide_get e (fun q => ?_), d, r⟩
  obtain ⟨o', e', ⟨vs, n, d'⟩, _⟩ := U
  rw [q] at e
  rw [e] at e'; cases e'; rw [d] at d'; cases d'
/- a list, not frozen, its object not told whole -/
noncomputable def UI (W : Wld g) (D : Addr) (xs : List PyData) : Prop := ∃ vs o n, W.h.get? D = some o ∧ o.cls = .type "list" ∧ o.data = .seq vs n ∧ W.F D = none ∧ IsVs W.F vs.toList xs
theorem UI.un {D : Addr} {xs : List PyData} (u : UI W D xs) : Un W D := let ⟨vs, o, n, e, c, d, f, q⟩ := u; ⟨o, e, ⟨vs, n, d⟩, f⟩
theorem UI.sl {D : Addr} {xs : List PyData} (u : UI W D xs) : SL xs W (.ref D) := let ⟨vs, o, n, e, c, d, f, q⟩ := u; ⟨D, vs, rfl, ⟨o, e, c, n, d⟩, q⟩
theorem UI.soft {L : Addr} {D : Addr} {xs : List PyData} (u : UI W D xs) (s : Soft L W W') : UI W' D xs := by
  obtain ⟨vs, o, n, e, c, d, f, q⟩ := u
  exact ⟨vs, o, n, s.kp D o e (.inl ⟨_, _, d⟩), c, d, s.off D o e (.inl ⟨_, _, d⟩) f, q.mono s.fz⟩
theorem UI.up {D : Addr} {xs : List PyData} (u : UI W D xs) (l : W.Le W') : UI W' D xs := u.soft (L := 0) (.of_le l)
theorem UL.ui {D : Addr} {xs : List PyData} (u : UL W D xs) : UI W D xs := let ⟨vs, n, e, f, q⟩ := u; ⟨vs, _, n, e, rfl, rfl, f, q⟩

/- a def called, three arguments -/
theorem wp_call30 {x : Str} {np pos : Pos} {e₁ e₂ e₃ : Expr} {f : Addr} {P₁ P₂ P₃ : Wld g → Value → Prop} {Q : Value → Shared → Prop} {E : Value → Shared → Prop} (hs' : s.heap = W.h) (hf : Ex prog w A env (.Name x np) W fun _ v => v = .ref f) (hm : ∃ o fd, W.F f = some o ∧ o.data = .func fd) (hst : starEach [e₁, e₂, e₃] env = [(false, eval e₁ env), (false, eval e₂ env), (false, eval e₃ env)])
    (h1 : Ex prog w A env e₁ W P₁) (h2 : Ex prog w A env e₂ W P₂) (h3 : Ex prog w A env e₃ W P₃) (h : ∀ (W₁ W₂ W₃ : Wld g) a b c tk, W.Le W₁ → W₁.Le W₂ → W₂.Le W₃ → P₁ W₁ a → P₂ W₂ b → P₃ W₃ c → wpAny (model prog w) A (call (.ref f) [a, b, c]) Q E { s with heap := W₃.h, toks := tk }) :
    wpAny (model prog w) A (eval (.Call (.Name x np) [e₁, e₂, e₃] [] pos) env) Q E s := by
  rw [eval_Call_Name, hst]
  refine wpAny_bind (hf W (.refl _) s hs' _ _ fun W₁ tk v l₁ e => ?_)
  subst e
  obtain ⟨o, fd, ho, hd⟩ := hm
  refine callWith_function (evalArgs_plain (spliced_cons (h1 W₁ l₁ _ rfl _ _ fun W₂ tk₂ a l₂ p₂ => spliced_cons (h2 W₂ (l₁.trans l₂) _ rfl _ _ fun W₃ tk₃ b l₃ p₃ =>
    spliced_cons (h3 W₃ ((l₁.trans l₂).trans l₃) _ rfl _ _ fun W₄ tk₄ c l₄ p₄ => spliced_nil ⟨⟨W₄.inn _ _ (l₄.fz _ _ (l₃.fz _ _ (l₂.fz _ _ (l₁.fz _ _ ho)))), hd⟩, ?_⟩)))))
  exact h W₂ W₃ W₄ _ b c tk₄ (l₁.trans l₂) l₃ l₄ p₂ p₃ p₄
theorem wp_call3 {t0 : Nat} {x : Str} {np pos : Pos} {e₁ e₂ e₃ : Expr} {f : Addr} {P₁ P₂ P₃ : Wld g → Value → Prop} {Q : Value → Shared → Prop} {E : Value → Shared → Prop} (_hs : W.h = W.h) (hf : Ex prog w A env (.Name x np) W fun _ v => v = .ref f) (hm : ∃ o fd, W.F f = some o ∧ o.data = .func fd) (hst : starEach [e₁, e₂, e₃] env = [(false, eval e₁ env), (false, eval e₂ env), (false, eval e₃ env)])
    (h1 : Ex prog w A env e₁ W P₁) (h2 : Ex prog w A env e₂ W P₂) (h3 : Ex prog w A env e₃ W P₃) (h : ∀ (W₁ W₂ W₃ : Wld g) a b c tk, W.Le W₁ → W₁.Le W₂ → W₂.Le W₃ → P₁ W₁ a → P₂ W₂ b → P₃ W₃ c → wpAny (model prog w) A (call (.ref f) [a, b, c]) Q E { s with heap := W₃.h, toks := tk }) :
    wpAny (model prog w) A (eval (.Call (.Name x np) [e₁, e₂, e₃] [] pos) env) Q E { s with heap := W.h, toks := t0 } := wp_call30 (s := { s with heap := W.h, toks := t0 }) rfl hf hm hst h1 h2 h3 h
theorem wp_call20 {x : Str} {np pos : Pos} {e₁ e₂ : Expr} {f : Addr} {P₁ P₂ : Wld g → Value → Prop} {Q : Value → Shared → Prop} {E : Value → Shared → Prop} (hs' : s.heap = W.h) (hf : Ex prog w A env (.Name x np) W fun _ v => v = .ref f) (hm : ∃ o fd, W.F f = some o ∧ o.data = .func fd) (hst : starEach [e₁, e₂] env = [(false, eval e₁ env), (false, eval e₂ env)])
    (h1 : Ex prog w A env e₁ W P₁) (h2 : Ex prog w A env e₂ W P₂) (h : ∀ (W₁ W₂ : Wld g) a b tk, W.Le W₁ → W₁.Le W₂ → P₁ W₁ a → P₂ W₂ b → wpAny (model prog w) A (call (.ref f) [a, b]) Q E { s with heap := W₂.h, toks := tk }) :
    wpAny (model prog w) A (eval (.Call (.Name x np) [e₁, e₂] [] pos) env) Q E s := by
  rw [eval_Call_Name, hst]
  refine wpAny_bind (hf W (.refl _) s hs' _ _ fun W₁ tk v l₁ e => ?_)
  subst e
  obtain ⟨o, fd, ho, hd⟩ := hm
  refine callWith_function (evalArgs_plain (spliced_cons (h1 W₁ l₁ _ rfl _ _ fun W₂ tk₂ a l₂ p₂ => spliced_cons (h2 W₂ (l₁.trans l₂) _ rfl _ _ fun W₃ tk₃ b l₃ p₃ =>
    spliced_nil ⟨⟨W₃.inn _ _ (l₃.fz _ _ (l₂.fz _ _ (l₁.fz _ _ ho))), hd⟩, ?_⟩))))
  exact h W₂ W₃ _ b tk₃ (l₁.trans l₂) l₃ p₂ p₃

theorem wp_call2 {t0 : Nat} {x : Str} {np pos : Pos} {e₁ e₂ : Expr} {f : Addr} {P₁ P₂ : Wld g → Value → Prop} {Q : Value → Shared → Prop} {E : Value → Shared → Prop} (_hs : W.h = W.h) (hf : Ex prog w A env (.Name x np) W fun _ v => v = .ref f) (hm : ∃ o fd, W.F f = some o ∧ o.data = .func fd) (hst : starEach [e₁, e₂] env = [(false, eval e₁ env), (false, eval e₂ env)])
    (h1 : Ex prog w A env e₁ W P₁) (h2 : Ex prog w A env e₂ W P₂) (h : ∀ (W₁ W₂ : Wld g) a b tk, W.Le W₁ → W₁.Le W₂ → P₁ W₁ a → P₂ W₂ b → wpAny (model prog w) A (call (.ref f) [a, b]) Q E { s with heap := W₂.h, toks := tk }) :
    wpAny (model prog w) A (eval (.Call (.Name x np) [e₁, e₂] [] pos) env) Q E { s with heap := W.h, toks := t0 } := wp_call20 (s := { s with heap := W.h, toks := t0 }) rfl hf hm hst h1 h2 h
theorem IsVs.set {F : Fz} {vs ds} (q : IsVs F vs ds) : ∀ (j : Nat) {v d}, IsV F v d → IsVs F (vs.set j v) (ds.set j d) :=
  q.ind (P := fun vs ds => ∀ (j : Nat) {v d}, IsV F v d → IsVs F (vs.set j v) (ds.set j d)) (fun _ _ _ _ => .nil) fun a b r j => Nat.casesOn j (fun h => .cons h b) fun j h => .cons a (r j h)
/- inner of _int2digits -/
noncomputable def innA : Stmt := ((bodyOf (fdef 4))[1]?).getD (.Pass ⟨0, 0, 0, 0⟩)
noncomputable def qA : Str := "_int2digits.<locals>.inner"
noncomputable def fillA (n : Int) : Nat → Int → Int → Int → List Int → List Int
  | 0, _, _, _, xs => xs
  | k + 1, x, l, r, xs => if l + 1 = r then xs.set l.toNat x else
    let mid := (l + r).fdiv 2
    let sh := (mid - l) * n
    let up := x.fdiv (2 ^ sh.toNat)
    let lo := Builtin.bitXor x (up * 2 ^ sh.toNat)
    fillA n k up mid r (fillA n k lo l mid xs)
noncomputable def okA (n : Int) : Nat → Int → Int → Int → Nat → Bool
  | 0, _, _, _, _ => false
  | k + 1, x, l, r, len => if l + 1 = r then decide (0 ≤ l ∧ l < len ∧ len < 1000) else
    let mid := (l + r).fdiv 2
    let sh := (mid - l) * n
    let up := x.fdiv (2 ^ sh.toNat)
    let lo := Builtin.bitXor x (up * 2 ^ sh.toNat)
    decide (0 ≤ sh ∧ (mid - l).natAbs < 1000 ∧ up.natAbs < 1000 ∧ sh ≤ 1000) && okA n k lo l mid len && okA n k up mid r len
theorem fillA_len (n : Int) : ∀ k x l r xs, (fillA n k x l r xs).length = xs.length
  | 0, _, _, _, _ => rfl
  | k + 1, x, l, r, xs => by
    unfold fillA
    by_cases h : l + 1 = r
    · rw [if_pos h, List.length_set]
    · rw [if_neg h]
      dsimp only
      rw [fillA_len n k, fillA_len n k]

theorem innA_call {f ca ci cn D : Addr} {n : Int} {tn : Tok} (nl : g.NoLimit) : ∀ (k : Nat) {A : Around} {W : Wld g} {x l r : Int} {xs : List Int} {t u v : Tok} {s : Shared} {Q : Value → Shared → Prop} {E : Value → Shared → Prop}, Ok k A → s.heap = W.h → ∀ U : UI W D (xs.map .int), FnI W.F f "inner" qA innA [("n", cn), ("inner", ci), ("a_digits", ca)] →
    W.h.IsCell ca (some (.ref D)) → W.h.IsCell ci (some (.ref f)) → W.h.IsCell cn (some (.int n tn)) → okA n k x l r xs.length = true →
    (∀ (W' : Wld g) tk, (W.hide D U.un).Le W' → UI W' D ((fillA n k x l r xs).map .int) → Q .none { s with heap := W'.h, toks := tk }) →
    wpAny (model prog w) A (call (.ref f) [.int x t, .int l u, .int r v]) Q E s
  | 0, _, _, _, _, _, _, _, _, _, _, _, _, _, _, _, _, _, _, _, h, _ => by cases h
  | k + 1, A, W, x, l, r, xs, t, u, v, s, Q, E, hA, hs, U, FN, icA, icI, icN, hok, kk => by
    obtain ⟨fo, doc, pm, ct, c', hF, hd, hcd⟩ := FN
    refine wp_def (hco := by rfl) (hgen := by rfl) (hk := by rfl) (W := W) (binds := [("x", .int x t), ("L", .int l u), ("R", .int r v)]) hs (by have := hA.dp; lia) (W.inn _ _ hF) hd nl (hcd.rec' W.inn) rfl (BindsTo.of_eq (by rfl)) (show ∀ x ∈ (scopeOf innA).names, x.2 ≠ .cell from by decide) (List.forall_mem_cons.mpr ⟨by rfl, List.forall_mem_cons.mpr ⟨by rfl, List.forall_mem_cons.mpr ⟨by rfl, fun _ h => nomatch h⟩⟩⟩) fun W₁ L tk l₁ hF₁ F₁ => ?_
    have F₂ : FS (W.hide D U.un) W₁ _ [] _ _ := F₁.rebase hide_le
    generalize hm : (fun x_1 => List.lookup x_1 (List.reverse ([("x", Value.int x t), ("L", Value.int l u), ("R", Value.int r v)] : List (Str × Value))) : Str → Option Value) = m at F₂
    have mx : m "x" = some (.int x t) := by rw [← hm]; rfl
    have ml : m "L" = some (.int l u) := by rw [← hm]; rfl
    have mr : m "R" = some (.int r v) := by rw [← hm]; rfl
    have U₁ := U.up l₁
    have FN₁ : FnI W₁.F f "inner" qA innA [("n", cn), ("inner", ci), ("a_digits", ca)] := FnI.mono ⟨fo, doc, pm, ct, c', hF, hd, hcd⟩ l₁.fz
    have icA₁ := IsCell.le l₁ icA
    have icI₁ := IsCell.le l₁ icI
    have icN₁ := IsCell.le l₁ icN
    have fn₁ : ∃ o fd, W₁.F f = some o ∧ o.data = .func fd := ⟨_, _, l₁.fz _ _ hF, hd⟩
    generalize he : callEnv (fnX "inner" qA (paramsOf innA) (bodyOf innA) (scopeOf innA) [("n", cn), ("inner", ci), ("a_digits", ca)] .none .none doc pm none (.ref c') ct) L f = env at F₂
    have hA' : Ok k (A.deeper env) := hA.deeper
    have ekind : env.scope.kind = .function := by rw [← he]; rfl
    have kx : env.kindOf "x" = some .local := by rw [← he]; rfl
    have kl : env.kindOf "L" = some .local := by rw [← he]; rfl
    have kr : env.kindOf "R" = some .local := by rw [← he]; rfl
    have km : env.kindOf "mid" = some .local := by rw [← he]; rfl
    have ks : env.kindOf "shift" = some .local := by rw [← he]; rfl
    have ku : env.kindOf "upper" = some .local := by rw [← he]; rfl
    have ko : env.kindOf "lower" = some .local := by rw [← he]; rfl
    have hpl : (env.scope.kind == .class || (env.scope.kind == .module && env.locals != env.globals)) = false := by rw [← he]; rfl
    have nA : ∀ {W' : Wld g}, W'.h.IsCell ca (some (.ref D)) → Nm W'.h env "a_digits" (.ref D) := fun ic => nm_free (c := ca) ic (.inr (by rw [← he]; rfl)) (by rw [← he]; rfl)
    have nI : ∀ {W' : Wld g}, W'.h.IsCell ci (some (.ref f)) → Nm W'.h env "inner" (.ref f) := fun ic => nm_free (c := ci) ic (.inr (by rw [← he]; rfl)) (by rw [← he]; rfl)
    have nN : ∀ {W' : Wld g}, W'.h.IsCell cn (some (.int n tn)) → Nm W'.h env "n" (.int n tn) := fun ic => nm_free (c := cn) ic (.inr (by rw [← he]; rfl)) (by rw [← he]; rfl)
    unfold fillA at kk
    unfold okA at hok
    refine st_if (b := l + 1 == r) rfl (tst_cmp_int (hm := by with_unfolding_all rfl) (a := l + 1) (b := r) (ex_binop_int (a := l) (b := 1) (ex_var (h1 := by decide) (h2 := by decide) ekind (F₂.nm kl ml) (.int l u)) ex_int (fun t u s Q E nl h => P.add_int h) nl) (ex_var (h1 := by decide) (h2 := by decide) ekind (F₂.nm kr mr) (.int r v)) fun t u s Q E h => wpAny_eq_int h) ?_ ?_
    · intro hb W₃ tk₃ l₃
      have hb' : l + 1 = r := beq_iff_eq.mp hb
      rw [if_pos hb'] at hok kk
      have hok' := of_decide_eq_true hok
      have F₃ := F₂.up l₃
      refine wpAny_execs_cons (wpAny_Assign_Subscript ?_ (by rw [← he]; with_unfolding_all rfl))
      refine (ex_var (h1 := by decide) (h2 := by decide) ekind (F₃.nm kx mx) (.int x t) : Ex prog w _ env _ W₃ (V (.int x))) W₃ (.refl _) _ rfl _ _ fun W₄ tk₄ v₄ l₄ i₄ => ?_
      refine (ex_val (h1 := by decide) (h2 := by decide) (P := fun _ v => v = .ref D) ekind (nA (W' := W₄) (IsCell.le (l₃.trans l₄) icA₁)) (fun _ _ => rfl) : Ex prog w _ env _ W₄ _) W₄ (.refl _) _ rfl _ _ fun W₅ tk₅ v₅ l₅ e₅ => ?_
      subst e₅
      refine (ex_var (h1 := by decide) (h2 := by decide) ekind ((F₃.up (l₄.trans l₅)).nm kl ml) (.int l u) : Ex prog w _ env _ W₅ (V (.int l))) W₅ (.refl _) _ rfl _ _ fun W₆ tk₆ v₆ l₆ i₆ => ?_
      cases i₆
      have U₆ := ((U₁.up l₃).up (l₄.trans l₅)).up l₆
      obtain ⟨vs, o, nn, e, c, d, fD, q⟩ := U₆
      have lq : vs.size = xs.length := by have := q.length; simpa using this
      refine wpAny_setItem_list ⟨o, e, c, nn, d⟩ hok'.1 (by lia) (by omega) fun h' il sb => ?_
      have kp : ∀ b p, b ≠ D → W₆.h.get? b = some p → h'.get? b = some p := fun b p hb e => sb.extBut b p hb e
      let W₇ : Wld g := W₆.set D h' e (.inr ⟨_, c, by decide⟩) fD kp
      obtain ⟨o', e', c', nn', d'⟩ := il
      have F₆ := F₃.up ((l₄.trans l₅).trans l₆)
      have F₇ : FS (W.hide D U.un) W₇ env [] _ _ := F₆.but e (.inl (by rintro ⟨es, n, d2⟩; rw [d] at d2; cases d2)) (fun v q => by rw [d] at q; cases q) hide_none rfl kp
      refine wpAny_execs_cons (wpAny_Return_none ?_)
      refine kk W₇ _ F₇.le ⟨_, o', nn', e', c', d', fD, ?_⟩
      have z := q.set l.toNat (i₄.le (l₅.trans l₆))
      rw [List.map_set]
      show IsVs W₆.F _ _
      simpa using z
    · intro hb W₃ tk₃ l₃
      have hb' : ¬ l + 1 = r := fun q => by rw [beq_iff_eq.mpr q] at hb; cases hb
      rw [if_neg hb'] at hok kk
      dsimp only at hok kk
      generalize hmid : (l + r).fdiv 2 = mid at hok kk
      generalize hsh : (mid - l) * n = sh at hok kk
      generalize hup : x.fdiv (2 ^ sh.toNat) = up at hok kk
      generalize hlo : Builtin.bitXor x (up * 2 ^ sh.toNat) = lo at hok kk
      rw [Bool.and_eq_true, Bool.and_eq_true] at hok
      obtain ⟨⟨hd1, ok1⟩, ok2⟩ := hok
      have hd1 := of_decide_eq_true hd1
      have F₃ := F₂.up l₃
      refine wpAny_execs_nil ?_
      refine st_assign (P := V (.int mid)) F₃ rfl ?_ km hpl (by rw [← he]; with_unfolding_all rfl) fun W₄ W₅ v₅ tk₅ l₄ i₅ F₅ sp₅ hF₅ => ?_
      · refine ex_binop_int (a := l + r) (b := 1) (ex_binop_int (a := l) (b := r) (ex_var (h1 := by decide) (h2 := by decide) ekind (F₃.nm kl ml) (.int l u)) (ex_var (h1 := by decide) (h2 := by decide) ekind (F₃.nm kr mr) (.int r v)) (fun t u s Q E nl h => P.add_int h) nl) ex_int (fun t u s Q E nl h => rshift_int (by decide) (by rw [← hmid] at h; exact h)) nl
      obtain ⟨t₅, rfl⟩ := IsV.intI i₅
      refine st_assign (P := V (.int sh)) F₅ rfl ?_ ks hpl (by rw [← he]; with_unfolding_all rfl) fun W₆ W₇ v₇ tk₇ l₆ i₇ F₇ sp₇ hF₇ => ?_
      · exact ex_binop_int (a := mid - l) (b := n) (ex_binop_int (a := mid) (b := l) (ex_var (h1 := by decide) (h2 := by decide) ekind (F₅.nm km upd_at) (.int mid t₅)) (ex_var (h1 := by decide) (h2 := by decide) ekind (F₅.nm kl ((upd_ne (by decide)).trans ml)) (.int l u)) (fun t u s Q E nl h => P.sub_int h) nl) (ex_var (h1 := by decide) (h2 := by decide) ekind (nN (IsCell.le F₅.le (cell_hide icN))) (.int n tn)) (fun t u s Q E nl h => P.mul_int (by rw [hsh]; exact h) (IntMulOk.of_left (small_bits (by omega)))) nl
      obtain ⟨t₇, rfl⟩ := IsV.intI i₇
      refine st_assign (P := V (.int up)) F₇ rfl ?_ ku hpl (by rw [← he]; with_unfolding_all rfl) fun W₈ W₉ v₉ tk₉ l₈ i₉ F₉ sp₉ hF₉ => ?_
      · exact ex_binop_int (a := x) (b := sh) (ex_var (h1 := by decide) (h2 := by decide) ekind (F₇.nm kx ((upd_ne (by decide)).trans ((upd_ne (by decide)).trans mx))) (.int x t)) (ex_var (h1 := by decide) (h2 := by decide) ekind (F₇.nm ks upd_at) (.int sh t₇)) (fun t u s Q E nl h => rshift_int hd1.1 (by rw [hup]; exact h)) nl
      obtain ⟨t₉, rfl⟩ := IsV.intI i₉
      refine st_assign (P := V (.int lo)) F₉ rfl ?_ ko hpl (by rw [← he]; with_unfolding_all rfl) fun W₁₀ W₁₁ v₁₁ tk₁₁ l₁₀ i₁₁ F₁₁ sp₁₁ hF₁₁ => ?_
      · exact ex_binop_int (a := x) (b := up * 2 ^ sh.toNat) (ex_var (h1 := by decide) (h2 := by decide) ekind (F₉.nm kx ((upd_ne (by decide)).trans ((upd_ne (by decide)).trans ((upd_ne (by decide)).trans mx)))) (.int x t)) (ex_binop_int (a := up) (b := sh) (ex_var (h1 := by decide) (h2 := by decide) ekind (F₉.nm ku upd_at) (.int up t₉)) (ex_var (h1 := by decide) (h2 := by decide) ekind (F₉.nm ks ((upd_ne (by decide)).trans upd_at)) (.int sh t₇)) (fun t u s Q E nl h => lshift_int hd1.1 (by have := small_bits hd1.2.2.1; lia) h) nl)
          (fun t u s Q E nl h => xor_int (by rw [hlo]; exact h)) nl
      obtain ⟨t₁₁, rfl⟩ := IsV.intI i₁₁
      generalize hm' : upd (upd (upd (upd m "mid" (.int mid t₅)) "shift" (.int sh t₇)) "upper" (.int up t₉)) "lower" (.int lo t₁₁) = m' at F₁₁
      have ml' : m' "L" = some (.int l u) := by rw [← hm']; exact (upd_ne (by decide)).trans ((upd_ne (by decide)).trans ((upd_ne (by decide)).trans ((upd_ne (by decide)).trans ml)))
      have mr' : m' "R" = some (.int r v) := by rw [← hm']; exact (upd_ne (by decide)).trans ((upd_ne (by decide)).trans ((upd_ne (by decide)).trans ((upd_ne (by decide)).trans mr)))
      have mm' : m' "mid" = some (.int mid t₅) := by rw [← hm']; exact (upd_ne (by decide)).trans ((upd_ne (by decide)).trans ((upd_ne (by decide)).trans upd_at))
      have mu' : m' "upper" = some (.int up t₉) := by rw [← hm']; exact (upd_ne (by decide)).trans upd_at
      have mo' : m' "lower" = some (.int lo t₁₁) := by rw [← hm']; exact upd_at
      have U₁₁ : UI W₁₁ D (xs.map .int) := ((((U₁.up l₃).up l₄).soft sp₅.so).up l₆ |>.soft sp₇.so |>.up l₈ |>.soft sp₉.so |>.up l₁₀ |>.soft sp₁₁.so)
      have FNw : ∀ {W' : Wld g}, (W.hide D U.un).Le W' → FnI W'.F f "inner" qA innA [("n", cn), ("inner", ci), ("a_digits", ca)] := fun l => FnI.mono ⟨fo, doc, pm, ct, c', hF, hd, hcd⟩ l.fz
      -- inner(lower, L, mid)
      refine wpAny_execs_cons (wpAny_Expr_any (wp_call3 (P₁ := fun _ v => v = .int lo t₁₁) (P₂ := fun _ v => v = .int l u) (P₃ := fun _ v => v = .int mid t₅) rfl (ex_val (h1 := by decide) (h2 := by decide) (P := fun _ v => v = .ref f) ekind (nI (IsCell.le F₁₁.le (cell_hide icI))) fun _ _ => rfl) ⟨_, _, F₁₁.le.fz _ _ hF, hd⟩ (by rfl)
        (ex_val (h1 := by decide) (h2 := by decide) ekind (F₁₁.nm ko mo') fun _ _ => rfl) (ex_val (h1 := by decide) (h2 := by decide) ekind (F₁₁.nm kl ml') fun _ _ => rfl) (ex_val (h1 := by decide) (h2 := by decide) ekind (F₁₁.nm km mm') fun _ _ => rfl) fun V₁ V₂ V₃ a b c tk₁₂ k₁ k₂ k₃ e₁ e₂ e₃ => ?_) (by rw [← he]; rfl) (by rw [← he]; with_unfolding_all rfl))
      subst e₁ e₂ e₃
      have F₁₂ := F₁₁.up ((k₁.trans k₂).trans k₃)
      have U₁₂ := U₁₁.up ((k₁.trans k₂).trans k₃)
      refine innA_call nl k hA' rfl U₁₂ (FNw F₁₂.le) (IsCell.le F₁₂.le (cell_hide icA)) (IsCell.le F₁₂.le (cell_hide icI)) (IsCell.le F₁₂.le (cell_hide icN)) ok1 fun W₁₃ tk₁₃ l₁₃ U₁₃ => ?_
      have F₁₃ := (F₁₂.hide (U := U₁₂.un) hide_none).up l₁₃
      -- inner(upper, mid, R)
      refine wpAny_execs_cons (wpAny_Expr_any (wp_call3 (W := W₁₃) (P₁ := fun _ v => v = .int up t₉) (P₂ := fun _ v => v = .int mid t₅) (P₃ := fun _ z => z = .int r v) rfl (ex_val (h1 := by decide) (h2 := by decide) (P := fun _ v => v = .ref f) ekind (nI (IsCell.le F₁₃.le (cell_hide icI))) fun _ _ => rfl) ⟨_, _, F₁₃.le.fz _ _ hF, hd⟩ (by rfl)
        (ex_val (h1 := by decide) (h2 := by decide) ekind (F₁₃.nm ku mu') fun _ _ => rfl) (ex_val (h1 := by decide) (h2 := by decide) ekind (F₁₃.nm km mm') fun _ _ => rfl) (ex_val (h1 := by decide) (h2 := by decide) ekind (F₁₃.nm kr mr') fun _ _ => rfl) fun V₁ V₂ V₃ a b c tk₁₄ k₁ k₂ k₃ e₁ e₂ e₃ => ?_) (by rw [← he]; rfl) (by rw [← he]; with_unfolding_all rfl))
      subst e₁ e₂ e₃
      have F₁₄ := F₁₃.up ((k₁.trans k₂).trans k₃)
      have U₁₄ := U₁₃.up ((k₁.trans k₂).trans k₃)
      refine innA_call nl k hA' rfl U₁₄ (FNw F₁₄.le) (IsCell.le F₁₄.le (cell_hide icA)) (IsCell.le F₁₄.le (cell_hide icI)) (IsCell.le F₁₄.le (cell_hide icN)) (by rw [fillA_len]; exact ok2) fun W₁₅ tk₁₅ l₁₅ U₁₅ => ?_
      have F₁₅ := (F₁₄.hide (U := U₁₄.un) hide_none).up l₁₅
      exact wpAny_execs_nil (kk W₁₅ tk₁₅ F₁₅.le U₁₅)
end
end Mine
namespace Mine
section
variable {g : Heap} {prog : Program} {w : World} {A : Around} {B B' W W' : Wld g} {env : Env} {own : List Addr} {m : Str → Option Value} {cm : Addr → Option Value} {s : Shared} {rest : List Stmt} {Q : Flow → Shared → Prop} {E : Value → Shared → Prop}
theorem IsVs.rep {F : Fz} {vs : List Value} {xs : List PyData} (h : IsVs F vs xs) : ∀ k : Nat, IsVs F (List.replicate k vs).flatten (List.replicate k xs).flatten
  | 0 => .nil
  | k + 1 => by rw [List.replicate_succ, List.replicate_succ, List.flatten_cons, List.flatten_cons]; exact h.append (h.rep k)
/- xs * k -/
theorem evn_mulL {a : Value} {xs : List PyData} {x : Int} {u : Tok} (ha : SL xs W a) (hlo : 0 ≤ x) (hhi : x < 2 ^ 63) (hsz : xs.length * x.toNat ≤ 256) : EvN prog w A (binaryOp .Mult a (.int x u)) W (List.replicate x.toNat xs).flatten := by
  intro W' l s hs Q E k
  obtain ⟨p, vs, rfl, ⟨⟨cls, d, data, sl⟩, ho, hc, n, hd⟩, q⟩ := ha.le l
  simp only at hc hd
  subst hc hd
  have e : vs.size = xs.length := by have := q.length; simpa using this
  have hsz' : vs.size * x.toNat ≤ 256 := by rw [e]; exact hsz
  have ho' : s.heap.get? p = some ({ cls := .type "list", dict := d, data := .seq vs n, slots := sl } : Obj) := by rw [hs]; exact ho
  refine wpAny_binaryOp_repeat_ref (T := "list") (U := "int") (by decide) ⟨_, ho', rfl⟩ (fun s' => typeIs_int s' x u) noFill_list_mul F.fills_int_mul F.slot_int_rmul repeat_list F.slot_int_index.lookup
    (call_meets F.slot_int_rmul (typeIs_int s x u) F.entry_int_rmul (F.args_int_rmul_2 _ _) (lm_int_rmul_list_any x u p vs n d sl)
      ⟨ho', rfl, ⟨_, ho', rfl⟩, call_meets F.slot_list_mul ⟨_, ho', rfl⟩ F.entry_list_mul (F.args_list_mul_2 _ _)
        (lm_list_mul_any p vs n d sl x u (by simp [Builtin.List.listFitsIndex]; lia) (by omega) (by simp [Builtin.List.listTooLong, sizeLine]; omega))
        ⟨ho', ?_⟩⟩)
  have ev : vs = vs.toList.toArray := by simp
  rw [ev, listMul_foldl_if]
  obtain ⟨W₁, e1, l1, eF, e2, h0⟩ := Wld.push_new hs { cls := .type "list", data := .seq (List.replicate x.toNat vs.toList).flatten.toArray } rfl
  have z := k W₁ s.toks (.ref s.heap.objs.size) l1 ⟨_, _, _, rfl, e2, by rw [eF]; exact Wld.F_none h0, by rw [eF]; simpa using q.rep x.toNat, h0⟩
  rw [e1] at z
  exact z
theorem evn_mulE {l r : Expr} {pos : Pos} {xs : List PyData} {x : Int} (h1 : Ex prog w A env l W (SL xs)) (h2 : Ex prog w A env r W (V (.int x))) (hlo : 0 ≤ x) (hhi : x < 2 ^ 63) (hsz : xs.length * x.toNat ≤ 256) : EvN prog w A (eval (.BinOp l .Mult r pos) env) W (List.replicate x.toNat xs).flatten := by
  intro W' lw s hs Q E k
  refine wpAny_BinOp (h1 W' lw s hs _ _ fun W₁ tk a l₁ p₁ => h2 W₁ (lw.trans l₁) _ rfl _ _ fun W₂ tk₂ b l₂ p₂ => ?_)
  obtain ⟨u, rfl⟩ := IsV.intI p₂
  refine evn_mulL (p₁.le l₂) hlo hhi hsz W₂ (.refl _) _ rfl Q E fun W₃ tk₃ v l₃ p₃ => k W₃ tk₃ v ((l₁.trans l₂).trans l₃) ?_
  obtain ⟨D, vs, n, e1, e2, e3, e4, e5⟩ := p₃
  exact ⟨D, vs, n, e1, e2, e3, e4, (l₁.trans l₂).none e5⟩
/- x.bit_length() -/
theorem ex_bits {o : Expr} {apos pos : Pos} {x : Int} (h : Ex prog w A env o W (V (.int x))) (hbase : attributeBase o "bit_length" env (eval o env) = eval o env) (hline : (apos.endLine == pos.line) = true) :
    Ex prog w A env (.Call (.Attribute o "bit_length" apos) [] [] pos) W (V (.int (Builtin.Int.intBits x))) := by
  intro W' l s hs Q E k
  refine wpAny_Call_method0_late hbase hline (h W' l s hs _ _ fun W₁ tk v l₁ p₁ => ?_)
  obtain ⟨t, rfl⟩ := IsV.intI p₁
  refine ⟨"int", "int.bit_length", PySem.F.plainAttrs_int, PySem.F.slot_int_bit_length, PySem.F.type_int_bit_length, typeIs_int _ _ _, (fun a q => nomatch q), ?_⟩
  exact callWith_builtin rfl (evalArgs_nil3 (call_int_bit_length (k W₁ (tk + 1) _ l₁ (.int _ _))))
theorem st_assignCN0 {x : Str} {px pos : Pos} {e : Expr} {c : Addr} {xs : List PyData} (F : FS B W env own m cm) (hs : s.heap = W.h) (he : EvN prog w A (eval e env) W xs) (hk : env.scope.kind = .function) (hx : env.kindOf x = some .cell) (hc : env.cells.lookup x = some c) (ho : c ∈ own)
    (hsw : swapsWith e (some (.Name x px)) pos.line env = pure false)
    (k : ∀ (W₂ : Wld g) D tk, FS B W₂ env own m (upd cm c (.ref D)) → Step env.locals W W₂ → UL W₂ D xs → W.h.get? D = none → wpAny (model prog w) A (execs rest env) Q E { s with heap := W₂.h, toks := tk }) :
    wpAny (model prog w) A (execs (.Assign [.Name x px] e pos :: rest) env) Q E s := by
  refine wpAny_execs_cons (wpAny_Assign_Name (he W (.refl _) s hs _ _ fun W₁ tk v l p => ?_) hsw)
  obtain ⟨D, vs, n, rfl, e, f, q, h0⟩ := p
  refine (F.up l).storeC (s := { s with heap := W₁.h, toks := tk }) rfl hk hx hc ho fun W₂ tk₂ F₂ st hF => ?_
  exact k W₂ D tk₂ F₂ ((Step.of_le l).trans st) (UL.soft (W := W₁) ⟨vs, n, e, f, q⟩ st.so) h0
theorem st_assignCN {t0 : Nat} {x : Str} {px pos : Pos} {e : Expr} {c : Addr} {xs : List PyData} (F : FS B W env own m cm) (_hs : W.h = W.h) (he : EvN prog w A (eval e env) W xs) (hk : env.scope.kind = .function) (hx : env.kindOf x = some .cell) (hc : env.cells.lookup x = some c) (ho : c ∈ own)
    (hsw : swapsWith e (some (.Name x px)) pos.line env = pure false)
    (k : ∀ (W₂ : Wld g) D tk, FS B W₂ env own m (upd cm c (.ref D)) → Step env.locals W W₂ → UL W₂ D xs → W.h.get? D = none → wpAny (model prog w) A (execs rest env) Q E { s with heap := W₂.h, toks := tk }) :
    wpAny (model prog w) A (execs (.Assign [.Name x px] e pos :: rest) env) Q E { s with heap := W.h, toks := t0 } := st_assignCN0 (s := { s with heap := W.h, toks := t0 }) F rfl he hk hx hc ho hsw k
theorem tst_int {x : Str} {pos : Pos} {n : Int} (h : Ex prog w A env (.Name x pos) W (V (.int n))) : Tst prog w A env (.Name x pos) W (n != 0) := by
  intro W' l s hs Q E k
  refine wpAny_isTrue_value (h W' l s hs _ _ fun W₁ tk v l₁ p => ?_)
  cases p
  exact PyProof.Rows.truthy_int (k W₁ tk _ l₁ rfl)
theorem tst_listN {x : Str} {pos : Pos} {xs : List PyData} (h : Ex prog w A env (.Name x pos) W (SL xs)) (hl : xs.length < 1000) : Tst prog w A env (.Name x pos) W (!xs.isEmpty) := by
  intro W' l s hs Q E k
  refine wpAny_isTrue_value (h W' l s hs _ _ fun W₁ tk v l₁ p => ?_)
  obtain ⟨a, vs, rfl, hl', q⟩ := p
  have e : vs.size = xs.length := by have := q.length; simpa using this
  refine wpAny_truthy_list (items := vs) hl' (by lia) ?_
  have e2 : (!vs.isEmpty) = (!xs.isEmpty) := by
    have e3 : vs.isEmpty = xs.isEmpty := by
      simp only [Array.isEmpty, e]
      cases xs <;> rfl
    rw [e3]
  exact k W₁ _ _ l₁ e2

noncomputable def digA (a n : Int) : List Int :=
  let len := ((Builtin.Int.intBits a : Int) + n - 1).fdiv n
  let xs := List.replicate len.toNat 0
  if a = 0 then xs else fillA n len.toNat a 0 len xs
/- what is asked of the numbers -/
noncomputable def okDig (a n : Int) : Bool :=
  let len := ((Builtin.Int.intBits a : Int) + n - 1).fdiv n
  decide (0 ≤ len ∧ len ≤ 5 ∧ 0 < n ∧ n ≤ 1000) && (a == 0 || okA n len.toNat a 0 len len.toNat)
noncomputable def digEnv (L a : Addr) (cd : Value) : Env := envOfC "_int2digits" (scopeOf (fdef 4)) L a cd
theorem flatten_rep (n : Nat) : (List.replicate n [PyData.int 0]).flatten = (List.replicate n (0 : Int)).map .int := by
  induction n with
  | zero => rfl
  | succ n ih => rw [List.replicate_succ, List.flatten_cons, ih]; rfl

theorem dig_body {mg mb : Str → Option Value} {L fa : Addr} {c : Addr} {a n : Int} {t u : Tok} (H : Gd g mg mb) (hA : Ok 6 A) (C : CodeHd g c 30) (hs : s.heap = W.h) (F : FS B W (digEnv L fa (.ref c)) [L + 3, L + 2, L + 1] m cm) (hma : m "a" = some (.int a t)) (hcn : cm (L + 1) = some (.int n u)) (ok : okDig a n = true) (hml : mg "len" = none)
    (k : ∀ (W' : Wld g) v' tk, B.Le W' → IsV W'.F v' (LI (digA a n)) → Q (.ret v') { s with heap := W'.h, toks := tk }) :
    wpAny (model prog w) A (execs (bodyOf (fdef 4)) (digEnv L fa (.ref c))) Q E s := by
  refine wp_norm hs ?_
  unfold okDig at ok
  unfold digA at k
  dsimp only at ok k
  generalize hlen : ((Builtin.Int.intBits a : Int) + n - 1).fdiv n = len at ok k
  rw [Bool.and_eq_true] at ok
  obtain ⟨ok1, ok2⟩ := ok
  have ok1 := of_decide_eq_true ok1
  have nla := H.nl
  -- a_digits = [0] * ((a.bit_length() + n - 1) // n)
  refine st_assignCN (c := L + 2) (xs := (List.replicate len.toNat (0 : Int)).map .int) F rfl ?_ rfl (by rfl) (by rfl) (by first | exact m5_1 | exact m5_2 | exact m5_3 | exact m5_4 | exact m5_5 | exact m3_1 | exact m3_2 | exact m3_3 | exact m2_1 | exact m2_2 | exact List.mem_singleton_self _ | simp) (by with_unfolding_all rfl) fun W₁ D tk₁ F₁ sp₁ U₁ h0 => ?_
  · rw [← flatten_rep]
    refine evn_mulE (xs := [.int 0]) (x := len) (EvN.sl (ex_list (.cons ex_int .nil) rfl (by decide))) ?_ ok1.1 (by omega) (by show 1 * _ ≤ 256; omega)
    refine ex_binop_int (a := (Builtin.Int.intBits a : Int) + n - 1) (b := n) (ex_binop_int (a := (Builtin.Int.intBits a : Int) + n) (b := 1) (ex_binop_int (a := (Builtin.Int.intBits a : Int)) (b := n) (ex_bits (ex_var (h1 := by decide) (h2 := by decide) rfl (F.nm (by rfl) hma) (.int a t)) (by rfl) (by rfl)) (ex_var (h1 := by decide) (h2 := by decide) rfl (F.nmC (by rfl) (by rfl) (by first | exact m5_1 | exact m5_2 | exact m5_3 | exact m5_4 | exact m5_5 | exact m3_1 | exact m3_2 | exact m3_3 | exact m2_1 | exact m2_2 | exact List.mem_singleton_self _ | simp) hcn) (.int n u)) (fun t u s Q E nl h => P.add_int h) nla) ex_int (fun t u s Q E nl h => P.sub_int h) nla)
      (ex_var (h1 := by decide) (h2 := by decide) rfl (F.nmC (by rfl) (by rfl) (by first | exact m5_1 | exact m5_2 | exact m5_3 | exact m5_4 | exact m5_5 | exact m3_1 | exact m3_2 | exact m3_3 | exact m2_1 | exact m2_2 | exact List.mem_singleton_self _ | simp) hcn) (.int n u)) (fun t u s Q E nl h => floordiv_int (by omega) (by rw [hlen]; exact h) (.inl (PyProof.noPylong_small (by omega)))) nla
  have b0 : B.h.get? D = none := F.le.none h0
  -- def inner
  refine st_nest (line := 32) (col := 4) (qual := qA) (P := 30) (cc := L + 3) (clos := [("n", L + 1), ("inner", L + 3), ("a_digits", L + 2)]) F₁ rfl rfl (by rfl) (by rfl) (by first | exact m5_1 | exact m5_2 | exact m5_3 | exact m5_4 | exact m5_5 | exact m3_1 | exact m3_2 | exact m3_3 | exact m2_1 | exact m2_2 | exact List.mem_singleton_self _ | simp) rfl rfl C (.inl ⟨rfl, rfl, rfl, rfl⟩) (by rfl) (by rfl) (by rfl) (by with_unfolding_all rfl) H.G H.bm rfl rfl (by rfl) fun W₂ f tk₂ F₂ sp₂ FN₂ => ?_
  have U₂ : UI W₂ D ((List.replicate len.toNat (0 : Int)).map .int) := (U₁.soft sp₂.so).ui
  have icA : W₂.h.IsCell (L + 2) (some (.ref D)) := F₂.ic (by first | exact m5_1 | exact m5_2 | exact m5_3 | exact m5_4 | exact m5_5 | exact m3_1 | exact m3_2 | exact m3_3 | exact m2_1 | exact m2_2 | exact List.mem_singleton_self _ | simp) ((upd_ne (ad_ne (by decide))).trans upd_at)
  have icI : W₂.h.IsCell (L + 3) (some (.ref f)) := F₂.ic (by first | exact m5_1 | exact m5_2 | exact m5_3 | exact m5_4 | exact m5_5 | exact m3_1 | exact m3_2 | exact m3_3 | exact m2_1 | exact m2_2 | exact List.mem_singleton_self _ | simp) upd_at
  have icN : W₂.h.IsCell (L + 1) (some (.int n u)) := F₂.ic (by first | exact m5_1 | exact m5_2 | exact m5_3 | exact m5_4 | exact m5_5 | exact m3_1 | exact m3_2 | exact m3_3 | exact m2_1 | exact m2_2 | exact List.mem_singleton_self _ | simp) ((upd_ne (ad_ne (by decide))).trans ((upd_ne (ad_ne (by decide))).trans hcn))
  have fin : ∀ (W₃ : Wld g) (tk : Nat) (xs : List Int), FS B W₃ (digEnv L fa (.ref c)) [L + 3, L + 2, L + 1] m (upd (upd cm (L + 2) (.ref D)) (L + 3) (.ref f)) → UI W₃ D (xs.map .int) → (if a = 0 then List.replicate len.toNat 0 else fillA n len.toNat a 0 len (List.replicate len.toNat 0)) = xs →
      wpAny (model prog w) A (execs [(bodyOf (fdef 4))[3]?.getD (.Pass ⟨0, 0, 0, 0⟩)] (digEnv L fa (.ref c))) Q E { s with heap := W₃.h, toks := tk } := by
    intro W₃ tk xs F₃ U₃ e
    subst e
    have ic : W₃.h.IsCell (L + 2) (some (.ref D)) := F₃.ic (by first | exact m5_1 | exact m5_2 | exact m5_3 | exact m5_4 | exact m5_5 | exact m3_1 | exact m3_2 | exact m3_3 | exact m2_1 | exact m2_2 | exact List.mem_singleton_self _ | simp) ((upd_ne (ad_ne (by decide))).trans upd_at)
    refine st_return rfl (P := fun W' v => v = .ref D) (ex_val (h1 := by decide) (h2 := by decide) rfl (nm_free (c := L + 2) ic (.inl (by rfl)) (by rfl)) fun _ _ => rfl) fun W₄ v tk₄ l₄ e₄ => ?_
    subst e₄
    obtain ⟨vs, o, nn, e, cc, d, f0, q⟩ := U₃.up l₄
    have nt := W₄.not_tab e (Or.inl fun vs q => by rw [d] at q; cases q)
    exact k (W₄.freeze D o e nt.1 nt.2 f0) _ tk₄ ((F₃.le.trans l₄).freeze e nt.1 nt.2 f0 b0) (.list Wld.freeze_at cc d (q.mono Wld.freeze_fz))
  -- if a: inner(a, 0, len(a_digits))
  refine st_if (b := a != 0) rfl (tst_int (ex_var (h1 := by decide) (h2 := by decide) rfl (F₂.nm (by rfl) hma) (.int a t))) ?_ ?_
  · intro hb W₃ tk₃ l₃
    have ha0 : ¬ a = 0 := fun q => by subst q; cases hb
    have ok2' : okA n len.toNat a 0 len len.toNat = true := by
      rcases (Bool.or_eq_true _ _).mp ok2 with h | h
      · exact absurd (beq_iff_eq.mp h) ha0
      · exact h
    have F₃ := F₂.up l₃
    have U₃ := U₂.up l₃
    refine wpAny_execs_cons (wpAny_Expr_any (wp_call3 (P₁ := fun _ v => v = .int a t) (P₂ := V (.int 0)) (P₃ := V (.int len)) rfl (ex_val (h1 := by decide) (h2 := by decide) (P := fun _ v => v = .ref f) rfl (nm_free (c := L + 3) (IsCell.le l₃ icI) (.inl (by rfl)) (by rfl)) fun _ _ => rfl) ?_ (by rfl) (ex_val (h1 := by decide) (h2 := by decide) rfl (F₃.nm (by rfl) hma) fun _ _ => rfl) ex_int ?_ fun V₁ V₂ V₃ x y z tk₄ k₁ k₂ k₃ e₁ e₂ e₃ => ?_) (by rfl) (by with_unfolding_all rfl))
    · obtain ⟨fo, doc, pm, ct, c', hF, hd, _⟩ := FN₂
      exact ⟨_, _, l₃.fz _ _ hF, hd⟩
    · refine (ex_call1 (f := .builtin "len") (P₁ := SL ((List.replicate len.toNat (0 : Int)).map .int)) (P := V (.int ((List.replicate len.toNat (0 : Int)).map PyData.int).length)) (H.builtin (hd := by decide) rfl rfl rfl (by rfl) hml (by decide) (by decide +kernel)) rfl rfl ?_ fun W₁ a l₁ p₁ => ev_len p₁ ?_).mono fun W' v l p => ?_
      · exact ex_val (h1 := by decide) (h2 := by decide) rfl (nm_free (c := L + 2) (IsCell.le l₃ icA) (.inl (by rfl)) (by rfl)) fun W' l => (U₃.up l).sl
      · rw [List.length_map, List.length_replicate]; omega
      · rw [List.length_map, List.length_replicate, Int.toNat_of_nonneg ok1.1] at p
        exact p
    · subst e₁
      cases e₂; cases e₃
      have lV := (k₁.trans k₂).trans k₃
      have U₄ := U₃.up lV
      refine innA_call H.nl len.toNat (A := A) ⟨hA.hh, by have := hA.dp; omega, by have := hA.un; lia⟩ rfl U₄ (FN₂.mono (l₃.trans lV).fz) (IsCell.le (l₃.trans lV) icA) (IsCell.le (l₃.trans lV) icI) (IsCell.le (l₃.trans lV) icN) (by rw [List.length_replicate]; exact ok2') fun W₅ tk₅ l₅ U₅ => ?_
      have F₅ := ((F₃.up lV).hide (U := U₄.un) b0).up l₅
      exact wpAny_execs_nil (fin W₅ tk₅ _ F₅ U₅ (if_neg ha0))
  · intro hb W₃ tk₃ l₃
    have ha0 : a = 0 := by
      by_cases h : a = 0
      · exact h
      · rw [show (a != 0) = true from bne_iff_ne.mpr h] at hb; cases hb
    exact wpAny_execs_nil (fin W₃ tk₃ _ (F₂.up l₃) (U₂.up l₃) (if_pos ha0))
end
end Mine
namespace Mine
section
variable {g : Heap} {prog : Program} {w : World} {A : Around} {B B' W W' : Wld g} {env : Env} {own : List Addr} {m : Str → Option Value} {cm : Addr → Option Value} {s : Shared} {rest : List Stmt} {Q : Flow → Shared → Prop} {E : Value → Shared → Prop}

theorem dig_call {mg mb : Str → Option Value} {fa : Addr} {c : Addr} {a n : Int} {t u : Tok} (H : Gd g mg mb) (hA : Ok 7 A) (C : CodeHd g c 30) (fn : FnAt g fa "_int2digits" (fdef 4) (.ref c)) (ok : okDig a n = true) (hml : mg "len" = none) :
    Ev prog w A (call (.ref fa) [.int a t, .int n u]) W (V (LI (digA a n))) := by
  refine ev_def (hco := by rfl) (hgen := by rfl) (hk := by rfl) (n := 6) (binds := [("a", .int a t), ("n", .int n u)]) hA fn H.nl (fun _ _ => by rfl) (fun L => ?_) (fun L => ?_) fun B W₁ L m cm s Q E lB lW hs F hm hc k => ?_
  · exact List.forall_mem_cons.mpr ⟨.inl (by rfl), List.forall_mem_cons.mpr ⟨.inr ⟨by rfl, by rfl⟩, fun _ h => nomatch h⟩⟩
  · exact List.forall_mem_cons.mpr ⟨by rfl, List.forall_mem_cons.mpr ⟨by rfl, List.forall_mem_cons.mpr ⟨by rfl, fun _ h => nomatch h⟩⟩⟩
  · exact dig_body (L := L) H hA.deeper C hs F ((hm _).trans (by rfl)) ((hc "n" (L + 1) (by rfl)).trans (by rfl)) ok hml fun W' v' tk l p => k W' v' tk l p

/- a def called within an expression -/
theorem ex_callF2 {x : Str} {np pos : Pos} {e₁ e₂ : Expr} {f : Addr} {P₁ P₂ P : Wld g → Value → Prop} (hf : Ex prog w A env (.Name x np) W fun _ v => v = .ref f) (hm : ∃ o fd, W.F f = some o ∧ o.data = .func fd) (hst : starEach [e₁, e₂] env = [(false, eval e₁ env), (false, eval e₂ env)])
    (h1 : Ex prog w A env e₁ W P₁) (h2 : Ex prog w A env e₂ W P₂) (h : ∀ W₁ W₂ a b, W.Le W₁ → W₁.Le W₂ → P₁ W₁ a → P₂ W₂ b → Ev prog w A (call (.ref f) [a, b]) W₂ P) : Ex prog w A env (.Call (.Name x np) [e₁, e₂] [] pos) W P := by
  intro W' lw s hs Q E k
  obtain ⟨o, fd, hF, hd⟩ := hm
  refine wp_call20 hs (hf.up lw) ⟨o, fd, lw.fz _ _ hF, hd⟩ hst (h1.up lw) (h2.up lw) fun W₁ W₂ a b tk l₁ l₂ p₁ p₂ => ?_
  exact h W₁ W₂ a b (lw.trans l₁) l₂ p₁ p₂ W₂ (.refl _) _ rfl Q E fun W₃ tk₃ v l₃ p₃ => k W₃ tk₃ v ((l₁.trans l₂).trans l₃) p₃
theorem ex_callF3 {x : Str} {np pos : Pos} {e₁ e₂ e₃ : Expr} {f : Addr} {P₁ P₂ P₃ P : Wld g → Value → Prop} (hf : Ex prog w A env (.Name x np) W fun _ v => v = .ref f) (hm : ∃ o fd, W.F f = some o ∧ o.data = .func fd) (hst : starEach [e₁, e₂, e₃] env = [(false, eval e₁ env), (false, eval e₂ env), (false, eval e₃ env)])
    (h1 : Ex prog w A env e₁ W P₁) (h2 : Ex prog w A env e₂ W P₂) (h3 : Ex prog w A env e₃ W P₃) (h : ∀ W₁ W₂ W₃ a b c, W.Le W₁ → W₁.Le W₂ → W₂.Le W₃ → P₁ W₁ a → P₂ W₂ b → P₃ W₃ c → Ev prog w A (call (.ref f) [a, b, c]) W₃ P) : Ex prog w A env (.Call (.Name x np) [e₁, e₂, e₃] [] pos) W P := by
  intro W' lw s hs Q E k
  obtain ⟨o, fd, hF, hd⟩ := hm
  refine wp_call30 hs (hf.up lw) ⟨o, fd, lw.fz _ _ hF, hd⟩ hst (h1.up lw) (h2.up lw) (h3.up lw) fun W₁ W₂ W₃ a b c tk l₁ l₂ l₃ p₁ p₂ p₃ => ?_
  exact h W₁ W₂ W₃ a b c (lw.trans l₁) l₂ l₃ p₁ p₂ p₃ W₃ (.refl _) _ rfl Q E fun W₄ tk₄ v l₄ p₄ => k W₄ tk₄ v (((l₁.trans l₂).trans l₃).trans l₄) p₄

/- inner of _digits2int -/
noncomputable def innB : Stmt := ((bodyOf (fdef 5))[0]?).getD (.Pass ⟨0, 0, 0, 0⟩)
noncomputable def qB : Str := "_digits2int.<locals>.inner"
noncomputable def foldB (n : Int) (ds : List Int) : Nat → Int → Int → Int
  | 0, _, _ => 0
  | k + 1, l, r => if l + 1 = r then ds.getD l.toNat 0 else
    let mid := (l + r).fdiv 2
    let sh := (mid - l) * n
    foldB n ds k mid r * 2 ^ sh.toNat + foldB n ds k l mid
noncomputable def okB (n : Int) (ds : List Int) : Nat → Int → Int → Bool
  | 0, _, _ => false
  | k + 1, l, r => if l + 1 = r then decide (0 ≤ l ∧ l < ds.length ∧ ds.length < 1000) else
    let mid := (l + r).fdiv 2
    let sh := (mid - l) * n
    decide (0 ≤ sh ∧ (mid - l).natAbs < 1000 ∧ (foldB n ds k mid r).natAbs < 1000 ∧ sh ≤ 1000) && okB n ds k mid r && okB n ds k l mid

theorem innB_call {f ca ci cn : Addr} {n : Int} {tn : Tok} {ds : List Int} {vd : Value} (nl : g.NoLimit) : ∀ (k : Nat) {A : Around} {W : Wld g} {l r : Int} {u v : Tok}, Ok k A → SL (ds.map .int) W vd → FnI W.F f "inner" qB innB [("n", cn), ("inner", ci), ("digits", ca)] →
    W.h.IsCell ca (some vd) → W.h.IsCell ci (some (.ref f)) → W.h.IsCell cn (some (.int n tn)) → okB n ds k l r = true →
    Ev prog w A (call (.ref f) [.int l u, .int r v]) W (V (.int (foldB n ds k l r)))
  | 0, _, _, _, _, _, _, _, _, _, _, _, _, h => by cases h
  | k + 1, A, W0, l, r, u, v, hA, S0, FN0, icA0, icI0, icN0, hok => by
    intro W lw s hs Q E kk
    have S := S0.le lw
    have icA := IsCell.le lw icA0
    have icI := IsCell.le lw icI0
    have icN := IsCell.le lw icN0
    obtain ⟨fo, doc, pm, ct, c', hF, hd, hcd⟩ := FN0.mono lw.fz
    refine wp_def (hco := by rfl) (hgen := by rfl) (hk := by rfl) (W := W) (binds := [("L", .int l u), ("R", .int r v)]) hs (by have := hA.dp; lia) (W.inn _ _ hF) hd nl (hcd.rec' W.inn) rfl (BindsTo.of_eq (by rfl)) (show ∀ x ∈ (scopeOf innB).names, x.2 ≠ .cell from by decide) (List.forall_mem_cons.mpr ⟨by rfl, List.forall_mem_cons.mpr ⟨by rfl, fun _ h => nomatch h⟩⟩) fun W₁ L tk l₁ hF₁ F₂ => ?_
    generalize hm : (fun x_1 => List.lookup x_1 (List.reverse ([("L", Value.int l u), ("R", Value.int r v)] : List (Str × Value))) : Str → Option Value) = m at F₂
    have ml : m "L" = some (.int l u) := by rw [← hm]; rfl
    have mr : m "R" = some (.int r v) := by rw [← hm]; rfl
    generalize he : callEnv (fnX "inner" qB (paramsOf innB) (bodyOf innB) (scopeOf innB) [("n", cn), ("inner", ci), ("digits", ca)] .none .none doc pm none (.ref c') ct) L f = env at F₂
    have hA' : Ok k (A.deeper env) := hA.deeper
    have ekind : env.scope.kind = .function := by rw [← he]; rfl
    have kl : env.kindOf "L" = some .local := by rw [← he]; rfl
    have kr : env.kindOf "R" = some .local := by rw [← he]; rfl
    have km : env.kindOf "mid" = some .local := by rw [← he]; rfl
    have ks : env.kindOf "shift" = some .local := by rw [← he]; rfl
    have hpl : (env.scope.kind == .class || (env.scope.kind == .module && env.locals != env.globals)) = false := by rw [← he]; rfl
    have nA : ∀ {W' : Wld g}, W'.h.IsCell ca (some vd) → Nm W'.h env "digits" vd := fun ic => nm_free (c := ca) ic (.inr (by rw [← he]; rfl)) (by rw [← he]; rfl)
    have nI : ∀ {W' : Wld g}, W'.h.IsCell ci (some (.ref f)) → Nm W'.h env "inner" (.ref f) := fun ic => nm_free (c := ci) ic (.inr (by rw [← he]; rfl)) (by rw [← he]; rfl)
    have nN : ∀ {W' : Wld g}, W'.h.IsCell cn (some (.int n tn)) → Nm W'.h env "n" (.int n tn) := fun ic => nm_free (c := cn) ic (.inr (by rw [← he]; rfl)) (by rw [← he]; rfl)
    have FNw : ∀ {W' : Wld g}, W.Le W' → FnI W'.F f "inner" qB innB [("n", cn), ("inner", ci), ("digits", ca)] := fun l => FnI.mono ⟨fo, doc, pm, ct, c', hF, hd, hcd⟩ l.fz
    unfold foldB at kk
    unfold okB at hok
    refine st_if (b := l + 1 == r) rfl (tst_cmp_int (hm := by with_unfolding_all rfl) (a := l + 1) (b := r) (ex_binop_int (a := l) (b := 1) (ex_var (h1 := by decide) (h2 := by decide) ekind (F₂.nm kl ml) (.int l u)) ex_int (fun t u s Q E nl h => P.add_int h) nl) (ex_var (h1 := by decide) (h2 := by decide) ekind (F₂.nm kr mr) (.int r v)) fun t u s Q E h => wpAny_eq_int h) ?_ ?_
    · intro hb W₃ tk₃ l₃
      have hb' : l + 1 = r := beq_iff_eq.mp hb
      rw [if_pos hb'] at hok kk
      have hok' := of_decide_eq_true hok
      have F₃ := F₂.up l₃
      refine st_return rfl (P := V (.int (ds.getD l.toNat 0))) ?_ fun W' v tk l₄ p => kk W' tk v (F₃.le.trans l₄) p
      refine ex_item (hsub := by intro _ _; with_unfolding_all rfl) (xs := ds.map .int) (k := l) (ex_val (h1 := by decide) (h2 := by decide) (P := SL (ds.map .int)) ekind (nA (IsCell.le F₃.le icA)) fun W' l => S.le (F₃.le.trans l)) (ex_var (h1 := by decide) (h2 := by decide) ekind (F₃.nm kl ml) (.int l u)) hok'.1 (by omega) ?_
      rw [List.getElem?_map, List.getD_eq_getElem?_getD, List.getElem?_eq_getElem (by omega)]; rfl
    · intro hb W₃ tk₃ l₃
      have hb' : ¬ l + 1 = r := fun q => by rw [beq_iff_eq.mpr q] at hb; cases hb
      rw [if_neg hb'] at hok kk
      dsimp only at hok kk
      generalize hmid : (l + r).fdiv 2 = mid at hok kk
      generalize hsh : (mid - l) * n = sh at hok kk
      rw [Bool.and_eq_true, Bool.and_eq_true] at hok
      obtain ⟨⟨hd1, ok1⟩, ok2⟩ := hok
      have hd1 := of_decide_eq_true hd1
      have F₃ := F₂.up l₃
      refine wpAny_execs_nil ?_
      refine st_assign (P := V (.int mid)) F₃ rfl ?_ km hpl (by rw [← he]; with_unfolding_all rfl) fun W₄ W₅ v₅ tk₅ l₄ i₅ F₅ sp₅ hF₅ => ?_
      · refine ex_binop_int (a := l + r) (b := 1) (ex_binop_int (a := l) (b := r) (ex_var (h1 := by decide) (h2 := by decide) ekind (F₃.nm kl ml) (.int l u)) (ex_var (h1 := by decide) (h2 := by decide) ekind (F₃.nm kr mr) (.int r v)) (fun t u s Q E nl h => P.add_int h) nl) ex_int (fun t u s Q E nl h => rshift_int (by decide) (by rw [← hmid] at h; exact h)) nl
      obtain ⟨t₅, rfl⟩ := IsV.intI i₅
      refine st_assign (P := V (.int sh)) F₅ rfl ?_ ks hpl (by rw [← he]; with_unfolding_all rfl) fun W₆ W₇ v₇ tk₇ l₆ i₇ F₇ sp₇ hF₇ => ?_
      · exact ex_binop_int (a := mid - l) (b := n) (ex_binop_int (a := mid) (b := l) (ex_var (h1 := by decide) (h2 := by decide) ekind (F₅.nm km upd_at) (.int mid t₅)) (ex_var (h1 := by decide) (h2 := by decide) ekind (F₅.nm kl ((upd_ne (by decide)).trans ml)) (.int l u)) (fun t u s Q E nl h => P.sub_int h) nl) (ex_var (h1 := by decide) (h2 := by decide) ekind (nN (IsCell.le F₅.le icN)) (.int n tn)) (fun t u s Q E nl h => P.mul_int (by rw [hsh]; exact h) (IntMulOk.of_left (small_bits (by omega)))) nl
      obtain ⟨t₇, rfl⟩ := IsV.intI i₇
      have ml' : upd (upd m "mid" (.int mid t₅)) "shift" (.int sh t₇) "L" = some (.int l u) := (upd_ne (by decide)).trans ((upd_ne (by decide)).trans ml)
      have mr' : upd (upd m "mid" (.int mid t₅)) "shift" (.int sh t₇) "R" = some (.int r v) := (upd_ne (by decide)).trans ((upd_ne (by decide)).trans mr)
      have mm' : upd (upd m "mid" (.int mid t₅)) "shift" (.int sh t₇) "mid" = some (.int mid t₅) := (upd_ne (by decide)).trans upd_at
      have cN : ∀ {x y : Expr} {np pos : Pos} {a b : Int} {ta tb : Tok}, Ex prog w (A.deeper env) env x W₇ (fun _ v => v = .int a ta) → Ex prog w (A.deeper env) env y W₇ (fun _ v => v = .int b tb) → okB n ds k a b = true → starEach [x, y] env = [(false, eval x env), (false, eval y env)] →
          Ex prog w (A.deeper env) env (.Call (.Name "inner" np) [x, y] [] pos) W₇ (V (.int (foldB n ds k a b))) := by
        intro x y np pos a b ta tb h1 h2 ok hst
        refine ex_callF2 (ex_val (h1 := by decide) (h2 := by decide) (P := fun _ v => v = .ref f) ekind (nI (IsCell.le F₇.le icI)) fun _ _ => rfl) ⟨_, _, F₇.le.fz _ _ hF, hd⟩ hst h1 h2 fun V₁ V₂ a' b' k₁ k₂ e₁ e₂ => ?_
        subst e₁ e₂
        have lV := F₇.le.trans (k₁.trans k₂)
        exact innB_call nl k hA' (S.le lV) (FNw lV) (IsCell.le lV icA) (IsCell.le lV icI) (IsCell.le lV icN) ok
      refine st_return rfl (P := V (.int (foldB n ds k mid r * 2 ^ sh.toNat + foldB n ds k l mid))) ?_ fun W' v tk l₄ p => kk W' tk v (F₇.le.trans l₄) p
      refine ex_binop_int (a := foldB n ds k mid r * 2 ^ sh.toNat) (b := foldB n ds k l mid) (ex_binop_int (a := foldB n ds k mid r) (b := sh) ?_ (ex_var (h1 := by decide) (h2 := by decide) ekind (F₇.nm ks upd_at) (.int sh t₇)) (fun t u s Q E nl h => lshift_int hd1.1 (by have := small_bits hd1.2.2.1; omega) h) nl) ?_ (fun t u s Q E nl h => P.add_int h) nl
      · exact cN (ex_val (h1 := by decide) (h2 := by decide) ekind (F₇.nm km mm') fun _ _ => rfl) (ex_val (h1 := by decide) (h2 := by decide) ekind (F₇.nm kr mr') fun _ _ => rfl) ok1 (by rfl)
      · exact cN (ex_val (h1 := by decide) (h2 := by decide) ekind (F₇.nm kl ml') fun _ _ => rfl) (ex_val (h1 := by decide) (h2 := by decide) ekind (F₇.nm km mm') fun _ _ => rfl) ok2 (by rfl)

noncomputable def numB (ds : List Int) (n : Int) : Int := if ds = [] then 0 else foldB n ds ds.length 0 ds.length
noncomputable def okNum (ds : List Int) (n : Int) : Bool := decide (ds.length ≤ 5) && (ds.isEmpty || okB n ds ds.length 0 ds.length)
noncomputable def numEnv (L a : Addr) (cd : Value) : Env := envOfC "_digits2int" (scopeOf (fdef 5)) L a cd
theorem num_body {mg mb : Str → Option Value} {L fa : Addr} {c : Addr} {ds : List Int} {n : Int} {u : Tok} {vd : Value} (H : Gd g mg mb) (hA : Ok 6 A) (C : CodeHd g c 37) (hs : s.heap = W.h) (F : FS B W (numEnv L fa (.ref c)) [L + 3, L + 2, L + 1] m cm) (S : SL (ds.map .int) B vd) (hcd : cm (L + 1) = some vd) (hcn : cm (L + 2) = some (.int n u)) (ok : okNum ds n = true) (hml : mg "len" = none)
    (k : ∀ (W' : Wld g) v' tk, B.Le W' → IsV W'.F v' (.int (numB ds n)) → Q (.ret v') { s with heap := W'.h, toks := tk }) :
    wpAny (model prog w) A (execs (bodyOf (fdef 5)) (numEnv L fa (.ref c))) Q E s := by
  refine wp_norm hs ?_
  unfold okNum at ok
  rw [Bool.and_eq_true] at ok
  have ok1 := of_decide_eq_true ok.1
  -- def inner
  refine st_nest (line := 47) (col := 4) (qual := qB) (P := 37) (cc := L + 3) (clos := [("n", L + 2), ("inner", L + 3), ("digits", L + 1)]) F rfl rfl (by rfl) (by rfl) (by first | exact m5_1 | exact m5_2 | exact m5_3 | exact m5_4 | exact m5_5 | exact m3_1 | exact m3_2 | exact m3_3 | exact m2_1 | exact m2_2 | exact List.mem_singleton_self _ | simp) rfl rfl C (.inr ⟨rfl, rfl, rfl, rfl⟩) (by rfl) (by rfl) (by rfl) (by with_unfolding_all rfl) H.G H.bm rfl rfl (by rfl) fun W₂ f tk₂ F₂ sp₂ FN₂ => ?_
  have icD : W₂.h.IsCell (L + 1) (some vd) := F₂.ic (by first | exact m5_1 | exact m5_2 | exact m5_3 | exact m5_4 | exact m5_5 | exact m3_1 | exact m3_2 | exact m3_3 | exact m2_1 | exact m2_2 | exact List.mem_singleton_self _ | simp) ((upd_ne (ad_ne (by decide))).trans hcd)
  have icI : W₂.h.IsCell (L + 3) (some (.ref f)) := F₂.ic (by first | exact m5_1 | exact m5_2 | exact m5_3 | exact m5_4 | exact m5_5 | exact m3_1 | exact m3_2 | exact m3_3 | exact m2_1 | exact m2_2 | exact List.mem_singleton_self _ | simp) upd_at
  have icN : W₂.h.IsCell (L + 2) (some (.int n u)) := F₂.ic (by first | exact m5_1 | exact m5_2 | exact m5_3 | exact m5_4 | exact m5_5 | exact m3_1 | exact m3_2 | exact m3_3 | exact m2_1 | exact m2_2 | exact List.mem_singleton_self _ | simp) ((upd_ne (ad_ne (by decide))).trans hcn)
  refine st_return rfl (P := V (.int (numB ds n))) ?_ fun W' v tk l₄ p => k W' v tk (F₂.le.trans l₄) p
  intro W₃ l₃ s₃ hs₃ Q₃ E₃ k₃
  have nd : Ex prog w A (numEnv L fa (.ref c)) (.Name "digits" ⟨53, 36, 53, 42⟩) W₃ (SL (ds.map .int)) := ex_val (h1 := by decide) (h2 := by decide) rfl (nm_free (c := L + 1) (IsCell.le l₃ icD) (.inl (by rfl)) (by rfl)) fun W' l => S.le ((F₂.le.trans l₃).trans l)
  refine wpAny_IfExp (tst_listN nd (by rw [List.length_map]; omega) W₃ (.refl _) s₃ hs₃ _ _ fun W₄ tk₄ b l₄ e₄ => ?_)
  subst e₄
  cases hds : ds with
  | nil =>
    subst hds
    refine (ex_int : Ex prog w A (numEnv L fa (.ref c)) _ W₄ _) W₄ (.refl _) _ rfl _ _ fun W₅ tk₅ v₅ l₅ i₅ => ?_
    exact k₃ W₅ tk₅ v₅ (l₄.trans l₅) i₅
  | cons d0 dr =>
    rw [← hds]
    have hne : ds.isEmpty = false := by rw [hds]; rfl
    have hne' : ds ≠ [] := by rw [hds]; exact List.cons_ne_nil _ _
    have eb : (!(ds.map PyData.int).isEmpty) = true := by rw [hds]; rfl
    rw [eb, if_pos rfl]
    have okk : okB n ds ds.length 0 ds.length = true := by
      have z := ok.2
      rw [hne, Bool.false_or] at z
      exact z
    have hnum : numB ds n = foldB n ds ds.length 0 ds.length := if_neg hne'
    rw [hnum] at k₃
    have l24 := l₃.trans l₄
    refine (ex_callF2 (P₁ := V (.int 0)) (P₂ := V (.int ds.length)) (ex_val (h1 := by decide) (h2 := by decide) (P := fun _ v => v = .ref f) rfl (nm_free (c := L + 3) (IsCell.le l24 icI) (.inl (by rfl)) (by rfl)) fun _ _ => rfl) ?_ (by rfl) ex_int ?_ fun V₁ V₂ a b k₁ k₂ e₁ e₂ => ?_ : Ex prog w A (numEnv L fa (.ref c)) _ W₄ _) W₄ (.refl _) _ rfl _ _ fun W₅ tk₅ v₅ l₅ i₅ => k₃ W₅ tk₅ v₅ (l₄.trans l₅) i₅
    · obtain ⟨fo, doc, pm, ct, c', hF, hd, _⟩ := FN₂
      exact ⟨_, _, l24.fz _ _ hF, hd⟩
    · refine (ex_call1 (f := .builtin "len") (P₁ := SL (ds.map .int)) (P := V (.int (ds.map PyData.int).length)) (H.builtin (hd := by decide) rfl rfl rfl (by rfl) hml (by decide) (by decide +kernel)) rfl rfl (nd.up l₄ |> fun z => ex_val (h1 := by decide) (h2 := by decide) rfl (nm_free (c := L + 1) (IsCell.le l24 icD) (.inl (by rfl)) (by rfl)) fun W' l => S.le ((F₂.le.trans l24).trans l)) fun W₁ a l₁ p₁ => ev_len p₁ ?_).mono fun W' v l p => ?_
      · rw [List.length_map]; omega
      · rw [List.length_map] at p
        exact p
    · cases e₁; cases e₂
      have lV := l24.trans (k₁.trans k₂)
      exact innB_call H.nl ds.length (A := A) ⟨hA.hh, by have := hA.dp; lia, by have := hA.un; lia⟩ (S.le (F₂.le.trans lV)) (FN₂.mono lV.fz) (IsCell.le lV icD) (IsCell.le lV icI) (IsCell.le lV icN) okk
theorem num_call {mg mb : Str → Option Value} {fa : Addr} {c : Addr} {ds : List Int} {n : Int} {u : Tok} {vd : Value} (H : Gd g mg mb) (hA : Ok 7 A) (C : CodeHd g c 37) (fn : FnAt g fa "_digits2int" (fdef 5) (.ref c)) (S : SL (ds.map .int) W vd) (ok : okNum ds n = true) (hml : mg "len" = none) :
    Ev prog w A (call (.ref fa) [vd, .int n u]) W (V (.int (numB ds n))) := by
  refine ev_def (hco := by rfl) (hgen := by rfl) (hk := by rfl) (n := 6) (binds := [("digits", vd), ("n", .int n u)]) hA fn H.nl (fun _ _ => by rfl) (fun L => ?_) (fun L => ?_) fun B W₁ L m cm s Q E lB lW hs F hm hc k => ?_
  · exact List.forall_mem_cons.mpr ⟨.inr ⟨by rfl, by rfl⟩, List.forall_mem_cons.mpr ⟨.inr ⟨by rfl, by rfl⟩, fun _ h => nomatch h⟩⟩
  · exact List.forall_mem_cons.mpr ⟨by rfl, List.forall_mem_cons.mpr ⟨by rfl, List.forall_mem_cons.mpr ⟨by rfl, fun _ h => nomatch h⟩⟩⟩
  · exact num_body (L := L) H hA.deeper C hs F (S.le lB) ((hc "digits" (L + 1) (by rfl)).trans (by rfl)) ((hc "n" (L + 2) (by rfl)).trans (by rfl)) ok hml fun W' v' tk l p => k W' v' tk l p
end
end Mine
namespace Mine
theorem Ok.le {m n : Nat} {A : Around} (o : Ok n A) (h : m ≤ n) : Ok m A := ⟨o.hh, by have := o.dp; lia, by have := o.un; lia⟩
section
variable {g : Heap} {prog : Program} {w : World} {A : Around} {B B' W W' : Wld g} {env : Env} {own : List Addr} {m : Str → Option Value} {cm : Addr → Option Value} {s : Shared} {rest : List Stmt} {Q : Flow → Shared → Prop} {E : Value → Shared → Prop}

theorem ex_divmod {x : Str} {np pos : Pos} {e₁ e₂ : Expr} {a b : Int} (hf : Ex prog w A env (.Name x np) W fun _ v => v = .builtin "divmod") (hst : starEach [e₁, e₂] env = [(false, eval e₁ env), (false, eval e₂ env)])
    (h1 : Ex prog w A env e₁ W (V (.int a))) (h2 : Ex prog w A env e₂ W (V (.int b))) (hb : b ≠ 0) (hs : b.natAbs < 1000) : Ex prog w A env (.Call (.Name x np) [e₁, e₂] [] pos) W (V (.tuple [.int (a.fdiv b), .int (a.fmod b)])) := by
  refine ex_call2 hf rfl hst h1 h2 fun W₁ W₂ va vb l₁ l₂ p₁ p₂ => ?_
  obtain ⟨t, rfl⟩ := IsV.intI p₁; obtain ⟨u, rfl⟩ := IsV.intI p₂
  intro W' l s hs' Q E k
  refine divmod_int hb ?_ (.inl (PyProof.noPylong_small (by lia)))
  obtain ⟨W₁, e1, l1, eF⟩ := Wld.alloc_le hs' { cls := .type "tuple", data := .seq #[.int (a.fdiv b) s.toks, .int (a.fmod b) (s.toks + 1)] } rfl (.inr ⟨_, rfl⟩)
  have z := k W₁ (s.toks + 1 + 1) (.ref s.heap.objs.size) l1 (.tuple eF rfl rfl (.cons (.int _ _) (.cons (.int _ _) .nil)))
  rw [e1] at z
  exact z

theorem IsVs.two {F : Fz} {vs : List Value} {a b : PyData} (h : IsVs F vs [a, b]) : ∃ va vb, vs = [va, vb] ∧ IsV F va a ∧ IsV F vb b := by
  cases h with | cons ia q => cases q with | cons ib q => cases q with | nil => exact ⟨_, _, rfl, ia, ib⟩
theorem IsVs.rev {F : Fz} : ∀ {vs ds} (_ : IsVs F vs ds), IsVs F vs.reverse ds.reverse
  | _, _, .nil => .nil
  | _, _, .cons a b => by rw [List.reverse_cons, List.reverse_cons]; exact b.rev.append (.one a)
/- x, y = e, a pair of data -/
theorem st_unpack0 {x y : Str} {px py tp pos : Pos} {e : Expr} {n₁ : Nat} {a b : PyData} (hh : A.handled = none) (F : FS B W env own m cm) (hs : s.heap = W.h) (h : Ex prog w A env e W (V (.tuple [a, b])))
    (hx : env.kindOf x = some .local) (hy : env.kindOf y = some .local) (hp : (env.scope.kind == .class || (env.scope.kind == .module && env.locals != env.globals)) = false)
    (hsw : swapsWithSole [.Tuple [.Name x px, .Name y py] n₁ tp] e pos.line env = pure false)
    (hsp : swappedStores [.Tuple [.Name x px, .Name y py] n₁ tp] e env = pure none)
    (k : ∀ (W₁ W₂ : Wld g) va vb tk, W.Le W₁ → IsV W₁.F va a → IsV W₁.F vb b → Step env.locals W₁ W₂ → FS B W₂ env own (upd (upd m x va) y vb) cm → wpAny (model prog w) A (execs rest env) Q E { s with heap := W₂.h, toks := tk }) :
    wpAny (model prog w) A (execs (.Assign [.Tuple [.Name x px, .Name y py] n₁ tp] e pos :: rest) env) Q E s := by
  refine wpAny_execs_cons (Assign_Tuple ?_ hsw hsp)
  refine h W (.refl _) s hs _ _ fun W₁ tk v l₁ p => ?_
  cases p with
  | @tuple t o vs n _ hF hc hd q =>
  obtain ⟨va, vb, e2, ia, ib⟩ := q.two
  have e3 : vs = #[va, vb] := by
    have : vs = vs.toList.toArray := by simp
    rw [this, e2]
  subst e3
  refine assign_Tuple_tuple (items := #[va, vb]) hh ⟨o, W₁.inn _ _ hF, hc, n, hd⟩ rfl (by rfl) fun h' hx' => ?_
  have kp : ∀ c o, W₁.h.get? c = some o → h'.get? c = some o := fun c o e => hx' c o (Nat.ne_of_lt (Heap.lt_size e)) e
  let W₄ := W₁.grow h' kp
  have l₄ : W₁.Le W₄ := W₁.grow_le h' kp
  have F₄ := (F.up l₁).up l₄
  show wpAny _ A (assignInOrder [assign (.Name x px) env, assign (.Name y py) env] [va, vb]) _ E _
  unfold assignInOrder
  refine wpAny_bind (wpAny_holding (wpAny_assign_Name (F₄.store (s := { s with heap := W₄.h, toks := tk }) rfl hx hp fun W₅ tk₅ F₅ s₅ _ => ?_)))
  unfold assignInOrder
  refine wpAny_bind (wpAny_holding (wpAny_assign_Name (F₅.store (s := { s with heap := W₅.h, toks := tk₅ }) rfl hy hp fun W₆ tk₆ F₆ s₆ _ => ?_)))
  exact wpAny_pure (k W₁ W₆ va vb tk₆ l₁ ia ib (((Step.of_le l₄).trans s₅).trans s₆) F₆)

theorem st_unpack {t0 : Nat} {x y : Str} {px py tp pos : Pos} {e : Expr} {n₁ : Nat} {a b : PyData} (hh : A.handled = none) (F : FS B W env own m cm) (_hs : W.h = W.h) (h : Ex prog w A env e W (V (.tuple [a, b])))
    (hx : env.kindOf x = some .local) (hy : env.kindOf y = some .local) (hp : (env.scope.kind == .class || (env.scope.kind == .module && env.locals != env.globals)) = false)
    (hsw : swapsWithSole [.Tuple [.Name x px, .Name y py] n₁ tp] e pos.line env = pure false)
    (hsp : swappedStores [.Tuple [.Name x px, .Name y py] n₁ tp] e env = pure none)
    (k : ∀ (W₁ W₂ : Wld g) va vb tk, W.Le W₁ → IsV W₁.F va a → IsV W₁.F vb b → Step env.locals W₁ W₂ → FS B W₂ env own (upd (upd m x va) y vb) cm → wpAny (model prog w) A (execs rest env) Q E { s with heap := W₂.h, toks := tk }) :
    wpAny (model prog w) A (execs (.Assign [.Tuple [.Name x px, .Name y py] n₁ tp] e pos :: rest) env) Q E { s with heap := W.h, toks := t0 } := st_unpack0 (s := { s with heap := W.h, toks := t0 }) hh F rfl h hx hy hp hsw hsp k
/- a list's own method that makes it anew -/
theorem wp_listop0 {id : String} {name : Str} {Bt : Builtin} {D : Addr} {more : List Value} {xs ys : List PyData} {f : Array Value → Array Value} {Q : Value → Shared → Prop} {E : Value → Shared → Prop} (U : UL W D xs) (slot : Slot "list" name id) (entry : entryFor table id = some Bt) (hargs : argsOk id ⟨.ref D :: more, []⟩)
    (gm : ∀ (vs : Array Value) (n : Nat), vs.size = xs.length → Meets (Bt ⟨.ref D :: more, []⟩) (fun _ R s => s.heap.get? D = some { cls := .type "list", dict := none, data := .seq vs n, slots := #[] } ∧ R (.ok (.ret .none)) { s with heap := s.heap.update D (Obj.mapSeq f), toks := s.toks }))
    (hf : ∀ vs : Array Value, IsVs W.F vs.toList xs → IsVs W.F (f vs).toList ys) (hs : s.heap = W.h)
    (k : ∀ (W' : Wld g) tk, UL W' D ys → W'.F = W.F → (∀ b o, b ≠ D → W.h.get? b = some o → W'.h.get? b = some o) → Q .none { s with heap := W'.h, toks := tk }) :
    wpAny (model prog w) A (call (.builtin id) (.ref D :: more)) Q E s := by
  obtain ⟨vs, c, e, fD, q⟩ := U
  have len : vs.size = xs.length := by have := q.length; simpa using this
  have ho : s.heap.get? D = some { cls := .type "list", data := .seq vs c } := by rw [hs]; exact e
  refine call_meets slot ⟨_, ho, rfl⟩ entry hargs (gm vs c len) ⟨ho, ?_⟩
  have kp : ∀ b o, b ≠ D → W.h.get? b = some o → (s.heap.update D (Obj.mapSeq f)).get? b = some o := fun b o hb e => by
    rw [Heap.get?_update_other _ _ (Ne.symm hb), hs]; exact e
  exact k (W.set D _ e (.inr ⟨_, rfl, by decide⟩) fD kp) s.toks ⟨f vs, _, Heap.get?_update_self _ ho rfl, fD, hf vs q⟩ rfl kp
theorem wp_listop {t0 : Nat} {id : String} {name : Str} {Bt : Builtin} {D : Addr} {more : List Value} {xs ys : List PyData} {f : Array Value → Array Value} {Q : Value → Shared → Prop} {E : Value → Shared → Prop} (U : UL W D xs) (slot : Slot "list" name id) (entry : entryFor table id = some Bt) (hargs : argsOk id ⟨.ref D :: more, []⟩)
    (gm : ∀ (vs : Array Value) (n : Nat), vs.size = xs.length → Meets (Bt ⟨.ref D :: more, []⟩) (fun _ R s => s.heap.get? D = some { cls := .type "list", dict := none, data := .seq vs n, slots := #[] } ∧ R (.ok (.ret .none)) { s with heap := s.heap.update D (Obj.mapSeq f), toks := s.toks }))
    (hf : ∀ vs : Array Value, IsVs W.F vs.toList xs → IsVs W.F (f vs).toList ys) (_hs : W.h = W.h)
    (k : ∀ (W' : Wld g) tk, UL W' D ys → W'.F = W.F → (∀ b o, b ≠ D → W.h.get? b = some o → W'.h.get? b = some o) → Q .none { s with heap := W'.h, toks := tk }) :
    wpAny (model prog w) A (call (.builtin id) (.ref D :: more)) Q E { s with heap := W.h, toks := t0 } := wp_listop0 (s := { s with heap := W.h, toks := t0 }) U slot entry hargs gm hf rfl k
/- what such a method leaves of a frame -/
theorem FS.list (F : FS B W env own m cm) {D : Addr} {xs : List PyData} (U : UL W D xs) (h0 : B.h.get? D = none) (hF : W'.F = W.F) (kp : ∀ b o, b ≠ D → W.h.get? b = some o → W'.h.get? b = some o) : FS B W' env own m cm ∧ Hard W W' := by
  obtain ⟨vs, n, e, _, _⟩ := U
  exact ⟨F.but e (.inl (by rintro ⟨es, n, d⟩; cases d)) (fun v q => by cases q) h0 hF kp, Hard.but e (by rintro ⟨vs, d⟩; cases d) hF kp⟩
theorem wp_append0 {D : Addr} {xs : List PyData} {v : Value} {y : PyData} {Q : Value → Shared → Prop} {E : Value → Shared → Prop} (U : UL W D xs) (hv : IsV W.F v y) (hl : xs.length ≤ sizeLine) (hs : s.heap = W.h)
    (k : ∀ (W' : Wld g) tk, UL W' D (xs ++ [y]) → W'.F = W.F → (∀ b o, b ≠ D → W.h.get? b = some o → W'.h.get? b = some o) → Q .none { s with heap := W'.h, toks := tk }) :
    wpAny (model prog w) A (call (.builtin "list.append") [.ref D, v]) Q E s :=
  wp_listop0 (f := fun x => x.push v) U PySem.F.slot_list_append PySem.F.entry_list_append (PySem.F.args_list_append_2 _ _) (fun vs n e => AutoListH.list_append_list_val_0 D vs n v (by lia)) (fun vs q => by simpa using q.append (.one hv)) hs k
theorem wp_append {t0 : Nat} {D : Addr} {xs : List PyData} {v : Value} {y : PyData} {Q : Value → Shared → Prop} {E : Value → Shared → Prop} (U : UL W D xs) (hv : IsV W.F v y) (hl : xs.length ≤ sizeLine) (_hs : W.h = W.h)
    (k : ∀ (W' : Wld g) tk, UL W' D (xs ++ [y]) → W'.F = W.F → (∀ b o, b ≠ D → W.h.get? b = some o → W'.h.get? b = some o) → Q .none { s with heap := W'.h, toks := tk }) :
    wpAny (model prog w) A (call (.builtin "list.append") [.ref D, v]) Q E { s with heap := W.h, toks := t0 } := wp_append0 (s := { s with heap := W.h, toks := t0 }) U hv hl rfl k
theorem wp_reverse0 {D : Addr} {xs : List PyData} {Q : Value → Shared → Prop} {E : Value → Shared → Prop} (U : UL W D xs) (hl : xs.length ≤ sizeLine) (hs : s.heap = W.h)
    (k : ∀ (W' : Wld g) tk, UL W' D xs.reverse → W'.F = W.F → (∀ b o, b ≠ D → W.h.get? b = some o → W'.h.get? b = some o) → Q .none { s with heap := W'.h, toks := tk }) :
    wpAny (model prog w) A (call (.builtin "list.reverse") [.ref D]) Q E s :=
  wp_listop0 (f := fun x => x.reverse) U PySem.F.slot_list_reverse PySem.F.entry_list_reverse (PySem.F.args_list_reverse_1 _) (fun vs n e => AutoListH.list_reverse_list_0 D vs n (by lia)) (fun vs q => by
    rw [Array.toList_reverse]
    exact q.rev) hs k
theorem wp_reverse {t0 : Nat} {D : Addr} {xs : List PyData} {Q : Value → Shared → Prop} {E : Value → Shared → Prop} (U : UL W D xs) (hl : xs.length ≤ sizeLine) (_hs : W.h = W.h)
    (k : ∀ (W' : Wld g) tk, UL W' D xs.reverse → W'.F = W.F → (∀ b o, b ≠ D → W.h.get? b = some o → W'.h.get? b = some o) → Q .none { s with heap := W'.h, toks := tk }) :
    wpAny (model prog w) A (call (.builtin "list.reverse") [.ref D]) Q E { s with heap := W.h, toks := t0 } := wp_reverse0 (s := { s with heap := W.h, toks := t0 }) U hl rfl k
/- a method of a list without arguments, for what it does -/
theorem st_method00 {o : Expr} {name : Str} {id : String} {apos pos spos : Pos} {D : Addr} (hs : s.heap = W.h)
    (ho : Ex prog w A env o W fun _ v => v = .ref D) (hl : ∀ W', W.Le W' → ∃ xs, UL W' D xs) (slot : Slot "list" name id) (hty : typeOf (.builtin id) = pure (.type "method_descriptor"))
    (hbase : attributeBase o name env (eval o env) = eval o env) (hline : (apos.endLine == pos.line) = true)
    (hi : interactive env = false) (hsw : swapsWith (.Call (.Attribute o name apos) [] [] pos) none spos.line env = pure false)
    (k : ∀ (W₁ : Wld g) tk, W.Le W₁ → wpAny (model prog w) A (call (.builtin id) [.ref D]) (fun _ s' => wpAny (model prog w) A (execs rest env) Q E s') E { s with heap := W₁.h, toks := tk }) :
    wpAny (model prog w) A (execs (.Expr (.Call (.Attribute o name apos) [] [] pos) spos :: rest) env) Q E s := by
  refine wpAny_execs_cons (wpAny_Expr_any ?_ hi hsw)
  refine wpAny_Call_method0_late hbase hline (ho W (.refl _) s hs _ _ fun W₁ tk v l₁ e₁ => ?_)
  subst e₁
  obtain ⟨xs, vs, n, eD, _, _⟩ := hl W₁ l₁
  refine ⟨"list", id, PySem.F.plainAttrs_list, slot, hty, ⟨_, eD, rfl⟩, (fun a q => by cases q; exact ⟨_, eD, rfl⟩), ?_⟩
  exact callWith_builtin rfl (evalArgs_nil3 (k W₁ tk l₁))

theorem st_method0 {t0 : Nat} {o : Expr} {name : Str} {id : String} {apos pos spos : Pos} {D : Addr} (_hs : W.h = W.h)
    (ho : Ex prog w A env o W fun _ v => v = .ref D) (hl : ∀ W', W.Le W' → ∃ xs, UL W' D xs) (slot : Slot "list" name id) (hty : typeOf (.builtin id) = pure (.type "method_descriptor"))
    (hbase : attributeBase o name env (eval o env) = eval o env) (hline : (apos.endLine == pos.line) = true)
    (hi : interactive env = false) (hsw : swapsWith (.Call (.Attribute o name apos) [] [] pos) none spos.line env = pure false)
    (k : ∀ (W₁ : Wld g) tk, W.Le W₁ → wpAny (model prog w) A (call (.builtin id) [.ref D]) (fun _ s' => wpAny (model prog w) A (execs rest env) Q E s') E { s with heap := W₁.h, toks := tk }) :
    wpAny (model prog w) A (execs (.Expr (.Call (.Attribute o name apos) [] [] pos) spos :: rest) env) Q E { s with heap := W.h, toks := t0 } := st_method00 (s := { s with heap := W.h, toks := t0 }) rfl ho hl slot hty hbase hline hi hsw k
/- _div2n1n, where it only divides -/
theorem div2_call {mg mb : Str → Option Value} {fa : Addr} {cd : Value} {a b n : Int} {t u v tl : Tok} (H : Gd g mg mb) (hA : Ok 1 A) (fn : FnAt g fa "_div2n1n" (fdef 2) cd) (ha : a.natAbs < 1000) (hb : b ≠ 0) (hbs : b.natAbs < 1000) (hn : 0 ≤ n) (hlim : mg "_DIV_LIMIT" = some (.int 4000 tl)) (hmd : mg "divmod" = none) :
    Ev prog w A (call (.ref fa) [.int a t, .int b u, .int n v]) W (V (.tuple [.int (a.fdiv b), .int (a.fmod b)])) := by
  refine ev_def (hco := by rfl) (hgen := by rfl) (hk := by rfl) (n := 0) (binds := [("a", .int a t), ("b", .int b u), ("n", .int n v)]) hA fn H.nl (fun _ _ => by rfl) (fun L => ?_) (fun L => ?_) fun B W₁ L m cm s Q E lB lW hs F hm hc k => ?_
  · exact List.forall_mem_cons.mpr ⟨.inl (by rfl), List.forall_mem_cons.mpr ⟨.inl (by rfl), List.forall_mem_cons.mpr ⟨.inl (by rfl), fun _ h => nomatch h⟩⟩⟩
  · exact fun _ h => nomatch h
  have mA : m "a" = some (.int a t) := (hm _).trans (by rfl)
  have mB : m "b" = some (.int b u) := (hm _).trans (by rfl)
  have mN : m "n" = some (.int n v) := (hm _).trans (by rfl)
  generalize he : envOfC "_div2n1n" (scopeOf (fdef 2)) L fa cd = env at F
  have ek : env.scope.kind = .function := by rw [← he]; rfl
  have eg : env.globals = mainGlobals := by rw [← he]; rfl
  have eb : env.builtins = builtinsNs := by rw [← he]; rfl
  refine wp_norm hs ?_
  refine st_if (b := true) rfl (tst_cmp_int (hm := by with_unfolding_all rfl) (a := (Builtin.Int.intBits a : Int) - n) (b := 4000) (ex_binop_int (a := (Builtin.Int.intBits a : Int)) (b := n) (ex_bits (ex_var (h1 := by decide) (h2 := by decide) ek (F.nm (by rw [← he]; rfl) mA) (.int a t)) (by rw [← he]; rfl) (by rfl)) (ex_var (h1 := by decide) (h2 := by decide) ek (F.nm (by rw [← he]; rfl) mN) (.int n v)) (fun t u s Q E nl h => P.sub_int h) H.nl)
    ((ex_global (hd := by decide) (v := .int 4000 tl) ek eg (by rw [← he]; rfl) H.G hlim).mono fun _ _ _ e => by rw [e]; exact .int _ _) fun t u s Q E h => P.le_int (by
      have : decide (((Builtin.Int.intBits a : Nat) : Int) - n ≤ 4000) = true := decide_eq_true (by have := small_bits ha; lia)
      rw [this]; exact h)) ?_ (fun h => by cases h)
  intro _ W₂ tk₂ l₂
  have F₂ := F.up l₂
  refine st_return rfl (P := V (.tuple [.int (a.fdiv b), .int (a.fmod b)])) ?_ fun W' v tk l₄ p => k W' v tk (F₂.le.trans l₄) p
  exact ex_divmod (H.builtin (hd := by decide) ek eg eb (by rw [← he]; rfl) hmd (by decide) (by decide +kernel)) (by rfl) (ex_var (h1 := by decide) (h2 := by decide) ek (F₂.nm (by rw [← he]; rfl) mA) (.int a t)) (ex_var (h1 := by decide) (h2 := by decide) ek (F₂.nm (by rw [← he]; rfl) mB) (.int b u)) hb hbs
end
end Mine
namespace Mine
noncomputable def pstep (b n : Int) (st : Int × List Int) (d : Int) : Int × List Int :=
  ((st.1 * 2 ^ n.toNat + d).fmod b, st.2 ++ [(st.1 * 2 ^ n.toNat + d).fdiv b])
noncomputable def okSteps (b n : Int) : Int × List Int → List Int → Bool
  | _, [] => true
  | st, d :: ds => decide (st.1.natAbs < 1000 ∧ (st.1 * 2 ^ n.toNat + d).natAbs < 1000) && okSteps b n (pstep b n st d) ds
theorem okSteps_at {b n : Int} : ∀ {st : Int × List Int} {ds : List Int} {i : Nat} {d : Int}, okSteps b n st ds = true → ds[i]? = some d →
    (((ds.take i).foldl (pstep b n) st).1.natAbs < 1000 ∧ (((ds.take i).foldl (pstep b n) st).1 * 2 ^ n.toNat + d).natAbs < 1000)
  | st, [], i, d, _, h => by simp at h
  | st, x :: ds, 0, d, ok, h => by
    simp at h; subst h
    unfold okSteps at ok
    rw [Bool.and_eq_true] at ok
    exact of_decide_eq_true ok.1
  | st, x :: ds, i + 1, d, ok, h => by
    unfold okSteps at ok
    rw [Bool.and_eq_true] at ok
    rw [List.getElem?_cons_succ] at h
    exact okSteps_at (st := pstep b n st x) (ds := ds) ok.2 h
theorem pstep_len {b n : Int} : ∀ (ds : List Int) (st : Int × List Int), (ds.foldl (pstep b n) st).2.length = st.2.length + ds.length
  | [], st => rfl
  | d :: ds, st => by
    rw [List.foldl_cons, pstep_len ds]
    show (st.2 ++ [_]).length + _ = _
    rw [List.length_append, List.length_singleton, List.length_cons]; lia
noncomputable def posSt (a b : Int) : Int × List Int := (digA a (Builtin.Int.intBits b)).reverse.foldl (pstep b (Builtin.Int.intBits b)) (0, [])
noncomputable def okPos (a b : Int) : Bool :=
  okDig a (Builtin.Int.intBits b) && okSteps b (Builtin.Int.intBits b) (0, []) (digA a (Builtin.Int.intBits b)).reverse && okNum (posSt a b).2.reverse (Builtin.Int.intBits b) && decide (b ≠ 0 ∧ b.natAbs < 1000 ∧ (digA a (Builtin.Int.intBits b)).length < 100)
theorem pos_ok {a b : Int} (hb : PrimeOk b) (h0 : 0 ≤ a) (h1 : a ≤ 20) : okPos a b = true ∧ numB (posSt a b).2.reverse (Builtin.Int.intBits b) = a.fdiv b ∧ (posSt a b).1 = a.fmod b := by
  obtain ⟨k, rfl⟩ := Int.eq_ofNat_of_zero_le h0
  have hk : k < 21 := by omega
  have all : ∀ b ∈ [(2 : Int), 3, 5], ∀ k : Nat, k < 21 → okPos (k : Int) b = true ∧ numB (posSt (k : Int) b).2.reverse (Builtin.Int.intBits b) = (k : Int).fdiv b ∧ (posSt (k : Int) b).1 = (k : Int).fmod b := by decide +kernel
  refine all b ?_ k hk
  rcases hb with rfl | rfl | rfl <;> simp

section
variable {g : Heap} {prog : Program} {w : World} {A : Around} {B B' W W' : Wld g} {env : Env} {own : List Addr} {m : Str → Option Value} {cm : Addr → Option Value} {s : Shared} {rest : List Stmt} {Q : Flow → Shared → Prop} {E : Value → Shared → Prop}

/- what the names of the number's functions mean -/
structure Nums (g : Heap) (mg : Str → Option Value) where
  a2 : Addr
  a4 : Addr
  a5 : Addr
  a6 : Addr
  a7 : Addr
  c2 : Value
  c4 : Addr
  c5 : Addr
  c6 : Value
  c7 : Value
  tl : Tok
  f2 : FnAt g a2 "_div2n1n" (fdef 2) c2
  f4 : FnAt g a4 "_int2digits" (fdef 4) (.ref c4)
  f5 : FnAt g a5 "_digits2int" (fdef 5) (.ref c5)
  f6 : FnAt g a6 "_divmod_pos" (fdef 6) c6
  f7 : FnAt g a7 "int_divmod" (fdef 7) c7
  h4 : CodeHd g c4 30
  h5 : CodeHd g c5 37
  m2 : mg "_div2n1n" = some (.ref a2)
  m4 : mg "_int2digits" = some (.ref a4)
  m5 : mg "_digits2int" = some (.ref a5)
  m6 : mg "_divmod_pos" = some (.ref a6)
  m7 : mg "int_divmod" = some (.ref a7)
  ml : mg "_DIV_LIMIT" = some (.int 4000 tl)
  nd : mg "divmod" = none
  nl : mg "len" = none
  nr : mg "reversed" = none

theorem FnAt.fn {a : Addr} {nm : Str} {st : Stmt} {cd : Value} (x : FnAt g a nm st cd) : ∃ o fd, W.F a = some o ∧ o.data = .func fd := let ⟨⟨o, pm, doc, e, d⟩, _⟩ := x; ⟨o, _, W.base _ _ e, d⟩
noncomputable def posEnv (L a : Addr) (cd : Value) : Env := envOfC "_divmod_pos" (scopeOf (fdef 6)) L a cd

theorem pos_body {mg mb : Str → Option Value} {L fa : Addr} {cd : Value} {a b : Int} {ta tb : Tok} (H : Gd g mg mb) (N : Nums g mg) (hA : Ok 8 A) (hs : s.heap = W.h) (F : FS B W (posEnv L fa cd) [] m cm) (hma : m "a" = some (.int a ta)) (hmb : m "b" = some (.int b tb)) (ok : okPos a b = true)
    (k : ∀ (W' : Wld g) v' tk, B.Le W' → IsV W'.F v' (.tuple [.int (numB (posSt a b).2.reverse (Builtin.Int.intBits b)), .int (posSt a b).1]) → Q (.ret v') { s with heap := W'.h, toks := tk }) :
    wpAny (model prog w) A (execs (bodyOf (fdef 6)) (posEnv L fa cd)) Q E s := by
  refine wp_norm hs ?_
  unfold okPos at ok
  rw [Bool.and_eq_true, Bool.and_eq_true, Bool.and_eq_true] at ok
  obtain ⟨⟨⟨ok1, ok2⟩, ok3⟩, ok4⟩ := ok
  have ok4 := of_decide_eq_true ok4
  have hpst : posSt a b = (digA a (Builtin.Int.intBits b)).reverse.foldl (pstep b (Builtin.Int.intBits b)) (0, []) := rfl
  generalize hn : (Builtin.Int.intBits b : Int) = n at *
  have hn0 : 0 ≤ n := by rw [← hn]; exact Int.natCast_nonneg _
  have hn1 : n ≤ 64 := by rw [← hn]; have := small_bits ok4.2.1; lia
  -- n = b.bit_length()
  refine st_assign (P := V (.int n)) F rfl ?_ (by rfl) (by rfl) (by with_unfolding_all rfl) fun W₁ W₂ v₂ tk₂ l₁ i₂ F₂ sp₂ hF₂ => ?_
  · have z := ex_bits (prog := prog) (w := w) (A := A) (W := W) (o := .Name "b" ⟨55, 8, 55, 9⟩) (apos := ⟨55, 8, 55, 20⟩) (pos := ⟨55, 8, 55, 22⟩) (ex_var (h1 := by decide) (h2 := by decide) rfl (F.nm (by rfl) hmb) (.int b tb)) (by rfl) (by rfl)
    rw [hn] at z
    exact z
  obtain ⟨tn, rfl⟩ := IsV.intI i₂
  -- a_digits = _int2digits(a, n)
  refine st_assign (P := V (LI (digA a n))) F₂ rfl ?_ (by rfl) (by rfl) (by with_unfolding_all rfl) fun W₃ W₄ v₄ tk₄ l₃ i₄ F₄ sp₄ hF₄ => ?_
  · refine ex_callF2 (P₁ := V (.int a)) (P₂ := V (.int n)) (ex_global (hd := by decide) rfl rfl (by rfl) H.G N.m4) N.f4.fn rfl (ex_var (h1 := by decide) (h2 := by decide) rfl (F₂.nm (by rfl) ((upd_ne (by decide)).trans hma)) (.int a ta)) (ex_var (h1 := by decide) (h2 := by decide) rfl (F₂.nm (by rfl) upd_at) (.int n tn)) fun V₁ V₂ x y k₁ k₂ p₁ p₂ => ?_
    cases p₁; cases p₂
    exact dig_call H (hA.le (by decide)) N.h4 N.f4 ok1 N.nl
  have i₄' := i₄.mono sp₄.so.fz
  -- r = 0
  refine st_assign (P := V (.int 0)) F₄ rfl ex_int (by rfl) (by rfl) (by with_unfolding_all rfl) fun W₅ W₆ v₆ tk₆ l₅ i₆ F₆ sp₆ hF₆ => ?_
  have i₆' := i₆.mono sp₆.so.fz
  have i₄₆ := (i₄'.le l₅).mono sp₆.so.fz
  -- q_digits = []
  refine st_assignN F₆ rfl (ex_list .nil rfl (by decide)) (by rfl) (by rfl) (by with_unfolding_all rfl) fun W₇ D tk₇ F₇ sp₇ U₇ h0 => ?_
  have i₄₇ := i₄₆.mono sp₇.so.fz
  have i₆₇ := i₆'.mono sp₇.so.fz
  -- for a_digit in reversed(a_digits)
  refine st_forI (hfold := by intro _; rfl) (c? := none) (xs := ((digA a n).map PyData.int).reverse) (fun i W m cm => ∃ vr, B.h.get? D = none ∧ m "q_digits" = some (.ref D) ∧ m "r" = some vr ∧ m "n" = some (.int n tn) ∧ m "b" = some (.int b tb) ∧
      UL W D ((((digA a n).reverse.take i).foldl (pstep b n) (0, [])).2.map .int) ∧ IsV W.F vr (.int (((digA a n).reverse.take i).foldl (pstep b n) (0, [])).1)) F₇ rfl rfl (.loc rfl (by rfl) (by rfl)) ?_ ?_ ?_ ?_ ?_
  · exact ex_call1 (f := .type "reversed") (P₁ := V (LI (digA a n))) (H.builtin (hd := by decide) rfl rfl rfl (by rfl) N.nr (by decide) (by decide +kernel)) rfl rfl (ex_var (h1 := by decide) (h2 := by decide) rfl (F₇.nm (by rfl) ((upd_ne (by decide)).trans ((upd_ne (by decide)).trans upd_at))) i₄₇) fun V₁ x k₁ p₁ => (srcI_rev hA.hh p₁).mono fun W' v l p s Q E rfl k => p s Q E rfl fun I fp P St h' J hfp hP st kp hI hF => k I fp P St h' J hfp hP st kp (k₁.none hI) hF
  · intro W' l
    refine ⟨v₆, F₆.le.none h0, upd_at, (upd_ne (by decide)).trans upd_at, (upd_ne (by decide)).trans ((upd_ne (by decide)).trans ((upd_ne (by decide)).trans upd_at)), (upd_ne (by decide)).trans ((upd_ne (by decide)).trans ((upd_ne (by decide)).trans ((upd_ne (by decide)).trans hmb))), U₇.up l, i₆₇.le l⟩
  · rintro i V₁ V₂ m₁ cm₁ m₂ cm₂ so hm hc ⟨vr, e0, e1, e2, e3, e4, u, q⟩
    exact ⟨vr, e0, (hm _ (by decide)).trans e1, (hm _ (by decide)).trans e2, (hm _ (by decide)).trans e3, (hm _ (by decide)).trans e4, u.soft so, q.mono so.fz⟩
  · rintro i y vy V₀ m₀ cm₀ tk₀ E₀ Q₀ hy iy FV ⟨vr, e0, e1, e2, e3, e4, u, q⟩ nmy hQ
    rw [← List.map_reverse, List.getElem?_map] at hy
    obtain ⟨d, hd, rfl⟩ := Option.map_eq_some_iff.mp hy
    have bnd := okSteps_at ok2 hd
    have hstep : ((digA a n).reverse.take (i + 1)).foldl (pstep b n) (0, []) = pstep b n (((digA a n).reverse.take i).foldl (pstep b n) (0, [])) d := by
      rw [List.take_add_one, hd, List.foldl_append]; rfl
    have hql : (((digA a n).reverse.take i).foldl (pstep b n) (0, [])).2.length < 100 := by
      rw [pstep_len]
      have : ((digA a n).reverse.take i).length ≤ (digA a n).length := by rw [List.length_take, List.length_reverse]; lia
      have := ok4.2.2
      show 0 + _ < 100
      omega
    generalize (((digA a n).reverse.take i).foldl (pstep b n) (0, [])) = st at u q bnd hql hstep
    obtain ⟨r, qs⟩ := st
    simp only at u q bnd hql
    obtain ⟨tr, rfl⟩ := IsV.intI q
    -- q_digit, r = _div2n1n((r << n) + a_digit, b, n)
    refine st_unpack (a := .int ((r * 2 ^ n.toNat + d).fdiv b)) (b := .int ((r * 2 ^ n.toNat + d).fmod b)) hA.hh FV rfl ?_ (by rfl) (by rfl) (by rfl) (by with_unfolding_all rfl) (by with_unfolding_all rfl) fun W₈ W₉ va vb tk₉ l₈ iva ivb sp₉ F₉ => ?_
    · refine ex_callF3 (P₁ := V (.int (r * 2 ^ n.toNat + d))) (P₂ := V (.int b)) (P₃ := V (.int n)) (ex_global (hd := by decide) rfl rfl (by rfl) H.G N.m2) N.f2.fn rfl (ex_binop_int (a := r * 2 ^ n.toNat) (b := d) (ex_binop_int (a := r) (b := n) (ex_var (h1 := by decide) (h2 := by decide) rfl (FV.nm (by rfl) e2) (.int r tr)) (ex_var (h1 := by decide) (h2 := by decide) rfl (FV.nm (by rfl) e3) (.int n tn)) (fun t u s Q E nl h => lshift_int hn0 (by have := small_bits bnd.1; lia) h) H.nl) (ex_var (h1 := by decide) (h2 := by decide) rfl nmy iy) (fun t u s Q E nl h => P.add_int h) H.nl)
        (ex_var (h1 := by decide) (h2 := by decide) rfl (FV.nm (by rfl) e4) (.int b tb)) (ex_var (h1 := by decide) (h2 := by decide) rfl (FV.nm (by rfl) e3) (.int n tn)) fun V₁ V₂ V₃ x y z k₁ k₂ k₃ p₁ p₂ p₃ => ?_
      cases p₁; cases p₂; cases p₃
      exact div2_call H (hA.le (by decide)) N.f2 bnd.2 ok4.1 ok4.2.1 hn0 N.ml N.nd
    have u₉ : UL W₉ D (qs.map .int) := (u.up l₈).soft sp₉.so
    have iva₉ := iva.mono sp₉.so.fz
    have ivb₉ := ivb.mono sp₉.so.fz
    -- q_digits.append(q_digit)
    refine st_method1 (D := D) (P := V (.int ((r * 2 ^ n.toNat + d).fdiv b))) rfl (ex_val (h1 := by decide) (h2 := by decide) (P := fun _ v => v = .ref D) rfl (F₉.nm (by rfl) ((upd_ne (by decide)).trans ((upd_ne (by decide)).trans e1))) fun _ _ => rfl) (fun W' l => ⟨_, u₉.up l⟩) PySem.F.slot_list_append PySem.F.type_list_append
      (ex_var (h1 := by decide) (h2 := by decide) rfl (F₉.nm (by rfl) ((upd_ne (by decide)).trans upd_at)) iva₉) (by rfl) (by rfl) (by rfl) (by with_unfolding_all rfl) (by with_unfolding_all rfl) fun W₁₀ v₁₀ tk₁₀ l₁₀ i₁₀ => ?_
    refine wp_append (W := W₁₀) (u₉.up l₁₀) i₁₀ (by rw [List.length_map]; exact Nat.le_trans (Nat.le_of_lt hql) (by decide)) rfl fun W₁₁ tk₁₁ U₁₁ hF₁₁ kp₁₁ => ?_
    have z := (F₉.up l₁₀).list (u₉.up l₁₀) e0 hF₁₁ kp₁₁
    refine wpAny_execs_nil (hQ _ _ ⟨W₁₁, _, _, _, rfl, z.1, ⟨vb, e0, (upd_ne (by decide)).trans ((upd_ne (by decide)).trans e1), upd_at, (upd_ne (by decide)).trans ((upd_ne (by decide)).trans e3), (upd_ne (by decide)).trans ((upd_ne (by decide)).trans e4), ?_, ?_⟩, (((Hard.of_le l₈).trans sp₉.ha).trans (.of_le l₁₀)).trans z.2⟩)
    · rw [hstep]
      have e : (qs.map PyData.int ++ [PyData.int ((r * 2 ^ n.toNat + d).fdiv b)]) = (pstep b n (r, qs) d).2.map .int := by
        show _ = (qs ++ [_]).map PyData.int
        rw [List.map_append]; rfl
      rw [← e]; exact U₁₁
    · rw [hF₁₁, hstep]
      exact ivb₉.le l₁₀
  · rintro W' m' cm' tk F' ⟨vr, e0, e1, e2, e3, e4, u, q⟩
    rw [List.length_reverse, List.length_map, ← List.length_reverse, List.take_length] at u q
    rw [← hpst] at u q
    have hql : (posSt a b).2.length < 100 := by
      rw [hpst, pstep_len, List.length_reverse]
      have := ok4.2.2
      show 0 + _ < 100
      omega
    -- q_digits.reverse()
    refine st_method0 (D := D) rfl (ex_val (h1 := by decide) (h2 := by decide) (P := fun _ v => v = .ref D) rfl (F'.nm (by rfl) e1) fun _ _ => rfl) (fun W' l => ⟨_, u.up l⟩) PySem.F.slot_list_reverse PySem.F.type_list_reverse (by rfl) (by rfl) (by with_unfolding_all rfl) (by with_unfolding_all rfl) fun W₁₀ tk₁₀ l₁₀ => ?_
    refine wp_reverse (W := W₁₀) (u.up l₁₀) (by rw [List.length_map]; exact Nat.le_trans (Nat.le_of_lt hql) (by decide)) rfl fun W₁₁ tk₁₁ U₁₁ hF₁₁ kp₁₁ => ?_
    have F₁₁ := ((F'.up l₁₀).list (u.up l₁₀) e0 hF₁₁ kp₁₁).1
    have q₁₁ : IsV W₁₁.F vr (.int (posSt a b).1) := by rw [hF₁₁]; exact q.le l₁₀
    rw [← List.map_reverse] at U₁₁
    -- q = _digits2int(q_digits, n)
    refine st_assign (P := V (.int (numB (posSt a b).2.reverse n))) F₁₁ rfl ?_ (by rfl) (by rfl) (by with_unfolding_all rfl) fun W₁₂ W₁₃ v₁₃ tk₁₃ l₁₂ i₁₃ F₁₃ sp₁₃ hF₁₃ => ?_
    · refine ex_callF2 (P₁ := SL ((posSt a b).2.reverse.map .int)) (P₂ := V (.int n)) (ex_global (hd := by decide) rfl rfl (by rfl) H.G N.m5) N.f5.fn rfl (ex_val (h1 := by decide) (h2 := by decide) rfl (F₁₁.nm (by rfl) e1) fun W' l => (U₁₁.up l).sl) (ex_var (h1 := by decide) (h2 := by decide) rfl (F₁₁.nm (by rfl) e3) (.int n tn)) fun V₁ V₂ x y k₁ k₂ p₁ p₂ => ?_
      cases p₂
      exact num_call H (hA.le (by decide)) N.h5 N.f5 (p₁.le k₂) ok3 N.nl
    refine st_return rfl (ex_tuple (.cons (ex_var (h1 := by decide) (h2 := by decide) rfl (F₁₃.nm (by rfl) upd_at) (i₁₃.mono sp₁₃.so.fz)) (.cons (ex_var (h1 := by decide) (h2 := by decide) rfl (F₁₃.nm (by rfl) ((upd_ne (by decide)).trans e2)) ((q₁₁.le l₁₂).mono sp₁₃.so.fz)) .nil)) rfl (show 2 ≤ sizeLine by decide)) fun W' v tk l₄ p => k W' v tk (F₁₃.le.trans l₄) p
end
end Mine
namespace Mine
section
variable {g : Heap} {prog : Program} {w : World} {A : Around} {B B' W W' : Wld g} {env : Env} {own : List Addr} {m : Str → Option Value} {cm : Addr → Option Value} {s : Shared} {rest : List Stmt} {Q : Flow → Shared → Prop} {E : Value → Shared → Prop}
theorem pos_call {mg mb : Str → Option Value} {a b : Int} {t u : Tok} (H : Gd g mg mb) (N : Nums g mg) (hA : Ok 9 A) (hb : PrimeOk b) (h0 : 0 ≤ a) (h1 : a ≤ 20) :
    Ev prog w A (call (.ref N.a6) [.int a t, .int b u]) W (V (.tuple [.int (a.fdiv b), .int (a.fmod b)])) := by
  obtain ⟨ok, e1, e2⟩ := pos_ok hb h0 h1
  refine ev_def (hco := by rfl) (hgen := by rfl) (hk := by rfl) (n := 8) (binds := [("a", .int a t), ("b", .int b u)]) hA N.f6 H.nl (fun _ _ => by rfl) (fun L => ?_) (fun L => ?_) fun B W₁ L m cm s Q E lB lW hs F hm hc k => ?_
  · exact List.forall_mem_cons.mpr ⟨.inl (by rfl), List.forall_mem_cons.mpr ⟨.inl (by rfl), fun _ h => nomatch h⟩⟩
  · exact fun _ h => nomatch h
  · refine pos_body (L := L) (fa := N.a6) (cd := N.c6) H N hA.deeper hs F ((hm _).trans (by rfl)) ((hm _).trans (by rfl)) ok fun W' v' tk l p => k W' v' tk l ?_
    rw [e1, e2] at p
    exact p
theorem ex_inv {e : Expr} {pos : Pos} {i : Int} (h : Ex prog w A env e W (V (.int i))) : Ex prog w A env (.UnaryOp .Invert e pos) W (V (.int (Builtin.bitNot i))) := by
  intro W' l s hs Q E k
  refine wpAny_UnaryOp (h W' l s hs _ _ fun W₁ tk v l₁ p => ?_)
  cases p with
  | int _ t => exact invert_int (k W₁ (tk + 1) (.int (Builtin.bitNot i) tk) l₁ (.int _ _))
theorem neg_div {a b : Int} (hb : PrimeOk b) (h0 : -20 ≤ a) (h1 : a < 0) : Builtin.bitNot ((Builtin.bitNot a).fdiv b) = a.fdiv b ∧ b + Builtin.bitNot ((Builtin.bitNot a).fmod b) = a.fmod b := by
  have all : ∀ b ∈ [(2 : Int), 3, 5], ∀ k : Nat, k < 21 → Builtin.bitNot ((Builtin.bitNot (-(k : Int) - 1)).fdiv b) = (-(k : Int) - 1).fdiv b ∧ b + Builtin.bitNot ((Builtin.bitNot (-(k : Int) - 1)).fmod b) = (-(k : Int) - 1).fmod b := by decide +kernel
  have e : a = -((-(a) - 1).toNat : Int) - 1 := by lia
  rw [e]
  refine all b ?_ _ (by omega)
  rcases hb with rfl | rfl | rfl <;> simp

theorem dm_ok {mg mb : Str → Option Value} (H : Gd g mg mb) (N : Nums g mg) : DmOk prog w g (.ref N.a7) := by
  have main : ∀ (n : Nat) {A : Around} {W : Wld g} {a b : Int} {t u : Tok}, Ok (10 + n) A → (0 ≤ a ∨ n = 1) → -20 ≤ a → a ≤ 20 → PrimeOk b → Ev prog w A (call (.ref N.a7) [.int a t, .int b u]) W (V (.tuple [.int (a.fdiv b), .int (a.fmod b)])) := by
    intro n
    induction n using Nat.strongRecOn with
    | _ n ih =>
    intro A W a b t u hA hn hlo hhi hb
    have hbp := hb.pos
    refine ev_def (hco := by rfl) (hgen := by rfl) (hk := by rfl) (n := 9 + n) (binds := [("a", .int a t), ("b", .int b u)]) (hA.le (by lia)) N.f7 H.nl (fun _ _ => by rfl) (fun L => ?_) (fun L => ?_) fun B W₁ L m cm s Q E lB lW hs F hm hc k => ?_
    · exact List.forall_mem_cons.mpr ⟨.inl (by rfl), List.forall_mem_cons.mpr ⟨.inl (by rfl), fun _ h => nomatch h⟩⟩
    · exact fun _ h => nomatch h
    have mA : m "a" = some (.int a t) := (hm _).trans (by rfl)
    have mB : m "b" = some (.int b u) := (hm _).trans (by rfl)
    have hA' : Ok (9 + n) (A.deeper (envOfC "int_divmod" (scopeOf (fdef 7)) L N.a7 N.c7)) := Ok.deeper (hA.le (by lia))
    generalize he : envOfC "int_divmod" (scopeOf (fdef 7)) L N.a7 N.c7 = env at F hA'
    have ek : env.scope.kind = .function := by rw [← he]; rfl
    have eg : env.globals = mainGlobals := by rw [← he]; rfl
    have eb : env.builtins = builtinsNs := by rw [← he]; rfl
    have ka : env.kindOf "a" = some .local := by rw [← he]; rfl
    have kb : env.kindOf "b" = some .local := by rw [← he]; rfl
    have kq : env.kindOf "q" = some .local := by rw [← he]; rfl
    have kr : env.kindOf "r" = some .local := by rw [← he]; rfl
    have hp : (env.scope.kind == .class || (env.scope.kind == .module && env.locals != env.globals)) = false := by rw [← he]; rfl
    refine wp_norm hs ?_
    refine st_if (b := false) rfl (tst_cmp_int (hm := by with_unfolding_all rfl) (a := b) (b := 0) (ex_var (h1 := by decide) (h2 := by decide) ek (F.nm kb mB) (.int b u)) ex_int fun t u s Q E h => wpAny_eq_int (by
      have : (b == 0) = false := beq_eq_false_iff_ne.mpr (by lia)
      rw [this]; exact h)) (fun h => by cases h) fun _ W₂ tk₂ l₂ => ?_
    have F₂ := F.up l₂
    refine st_if (b := false) rfl (tst_cmp_int (hm := by with_unfolding_all rfl) (a := b) (b := 0) (ex_var (h1 := by decide) (h2 := by decide) ek (F₂.nm kb mB) (.int b u)) ex_int fun t u s Q E h => P.lt_int (by
      have : decide (b < 0) = false := decide_eq_false (by omega)
      rw [this]; exact h)) (fun h => by cases h) fun _ W₃ tk₃ l₃ => ?_
    have F₃ := F₂.up l₃
    refine st_if (b := decide (a < 0)) rfl (tst_cmp_int (hm := by with_unfolding_all rfl) (a := a) (b := 0) (ex_var (h1 := by decide) (h2 := by decide) ek (F₃.nm ka mA) (.int a t)) ex_int fun t u s Q E h => P.lt_int h) ?_ ?_
    · intro hneg W₄ tk₄ l₄
      have hneg : a < 0 := of_decide_eq_true hneg
      have F₄ := F₃.up l₄
      have hn1 : n = 1 := by lia
      subst hn1
      have hbn : Builtin.bitNot a = -a - 1 := rfl
      refine st_unpack (a := .int ((Builtin.bitNot a).fdiv b)) (b := .int ((Builtin.bitNot a).fmod b)) hA'.hh F₄ rfl ?_ kq kr hp (by rw [← he]; with_unfolding_all rfl) (by rw [← he]; with_unfolding_all rfl) fun W₈ W₉ va vb tk₉ l₈ iva ivb sp₉ F₉ => ?_
      · refine ex_callF2 (P₁ := V (.int (Builtin.bitNot a))) (P₂ := V (.int b)) (ex_global (hd := by decide) ek eg (by rw [← he]; rfl) H.G N.m7) N.f7.fn (by rfl) (ex_inv (ex_var (h1 := by decide) (h2 := by decide) ek (F₄.nm ka mA) (.int a t))) (ex_var (h1 := by decide) (h2 := by decide) ek (F₄.nm kb mB) (.int b u)) fun V₁ V₂ x y k₁ k₂ p₁ p₂ => ?_
        cases p₁; cases p₂
        exact ih 0 (by decide) (hA'.le (by decide)) (.inl (by lia)) (by omega) (by omega) hb
      have iva₉ := iva.mono sp₉.so.fz
      have ivb₉ := ivb.mono sp₉.so.fz
      obtain ⟨d1, d2⟩ := neg_div hb hlo hneg
      refine st_return rfl (P := V (.tuple [.int (a.fdiv b), .int (a.fmod b)])) ?_ fun W' v tk l₅ p => k W' v tk (F₉.le.trans l₅) p
      rw [← d1, ← d2]
      refine ex_tuple (.cons (ex_inv (ex_var (h1 := by decide) (h2 := by decide) ek (F₉.nm kq ((upd_ne (by decide)).trans upd_at)) iva₉)) (.cons (ex_binop_int (a := b) (b := Builtin.bitNot ((Builtin.bitNot a).fmod b)) (ex_var (h1 := by decide) (h2 := by decide) ek (F₉.nm kb ((upd_ne (by decide)).trans ((upd_ne (by decide)).trans mB))) (.int b u)) (ex_inv (ex_var (h1 := by decide) (h2 := by decide) ek (F₉.nm kr upd_at) ivb₉)) (fun t u s Q E nl h => P.add_int h) H.nl) .nil)) (by rfl) (show 2 ≤ sizeLine by decide)
    · intro hpos W₄ tk₄ l₄
      have hpos : 0 ≤ a := by
        have := of_decide_eq_false hpos
        lia
      have F₄ := F₃.up l₄
      refine st_return rfl (P := V (.tuple [.int (a.fdiv b), .int (a.fmod b)])) ?_ fun W' v tk l₅ p => k W' v tk (F₄.le.trans l₅) p
      refine ex_callF2 (P₁ := V (.int a)) (P₂ := V (.int b)) (ex_global (hd := by decide) ek eg (by rw [← he]; rfl) H.G N.m6) N.f6.fn (by rfl) (ex_var (h1 := by decide) (h2 := by decide) ek (F₄.nm ka mA) (.int a t)) (ex_var (h1 := by decide) (h2 := by decide) ek (F₄.nm kb mB) (.int b u)) fun V₁ V₂ x y k₁ k₂ p₁ p₂ => ?_
      cases p₁; cases p₂
      exact pos_call H N (hA'.le (by lia)) hb hpos hhi
  obtain ⟨⟨o, pm, doc, e, d⟩, _⟩ := N.f7
  exact ⟨⟨N.a7, o, _, rfl, e, d⟩, fun A W a b t u hA h0 h1 hb => main 1 (hA.le (by decide)) (.inr rfl) h0 h1 hb⟩
end
end Mine
namespace Mine
noncomputable def ltL : List Int → List Int → Bool
  | [], [] => false
  | [], _ :: _ => true
  | _ :: _, [] => false
  | x :: xs, y :: ys => if x = y then ltL xs ys else decide (x < y)
section
variable {g : Heap} {prog : Program} {w : World} {A : Around} {B B' W W' : Wld g} {env : Env} {own : List Addr} {m : Str → Option Value} {cm : Addr → Option Value} {s : Shared} {rest : List Stmt}
theorem lt_tree {a b : Addr} {vs us : Array Value} {xs ys : List Int} {R : Fin → Shared → Prop} {E : Value → Shared → Prop} (ha : IsTup s.heap a vs) (hb : IsTup s.heap b us) (ia : IntsAre vs.toList xs) (ib : IntsAre us.toList ys) (h : R (.done (.ret (.bool (ltL xs ys)))) s) :
    wpAny (model prog w) A (Builtin.«tuple.__lt__» ⟨[.ref a, .ref b], []⟩) R E s := by
  obtain ⟨oa, hoa, hca, na, hda⟩ := ha
  obtain ⟨ob, hob, hcb, nb, hdb⟩ := hb
  show wpAny _ _ (isInstance (.ref b) (.type "tuple") >>= _) _ _ s
  refine wpAny_bind (wpAny_isInstance (T := "tuple") ⟨ob, hob, hcb⟩ isSubtype_tuple_tuple ?_)
  simp only [Bool.not_true, Bool.false_eq_true, if_false]
  refine wpAny_bind (wpAny_tupleItemsOf hoa hda ?_)
  refine wpAny_bind (wpAny_tupleItemsOf hob hdb ?_)
  refine wpAny_bind ?_
  refine wpAny_forIn_list _
    (fun rest r s' => r.1 = none ∧ s' = s ∧ ∃ x' y' xs' ys', rest = List.zip xs' ys' ∧ IntsAre xs' x' ∧ IntsAre ys' y' ∧ ltL x' y' = ltL xs ys ∧ decide (xs'.length < ys'.length) = decide (vs.size < us.size))
    _ ?_ ?_ _ _ ⟨rfl, rfl, xs, ys, vs.toList, us.toList, rfl, ia, ib, rfl, by simp⟩
  · rintro ⟨u, v⟩ rest r s' ⟨hr, rfl, x', y', xs', ys', hz, hx', hy', hlt, hlen⟩
    cases hx' with
    | nil => simp at hz
    | @cons k1 t1 xs'' x'' hx'' =>
      cases hy' with
      | nil => simp at hz
      | @cons k2 t2 ys'' y'' hy'' =>
        simp only [List.zip_cons_cons, List.cons.injEq, Prod.mk.injEq] at hz
        obtain ⟨⟨rfl, rfl⟩, rfl⟩ := hz
        refine wpAny_bind ((intKind prog w).eqBool (a := k1) (b := k2) (intKind_is prog w k1 t1) (intKind_is prog w k2 t2) ?_)
        by_cases hk : k1 = k2
        · subst hk
          rw [decide_eq_true rfl]
          simp only [Bool.not_true, Bool.false_eq_true, if_false]
          refine wpAny_pure ⟨rfl, rfl, x'', y'', xs'', ys'', rfl, hx'', hy'', ?_, by simpa using hlen⟩
          rw [← hlt]
          show _ = (if k1 = k1 then _ else _)
          rw [if_pos rfl]
        · rw [decide_eq_false hk]
          simp only [Bool.not_false, if_true]
          have hf : decide (k1 < k2) = ltL xs ys := by
            rw [← hlt]
            show _ = (if k1 = k2 then _ else _)
            rw [if_neg hk]
          rw [← hf] at h
          refine wpAny_bind (wpAny_rule ?_)
          refine wpAny_bind (show wpAny _ _ (compareOp .Lt (.int k1 t1) (.int k2 t2)) _ _ _ from P.lt_int ?_)
          exact wpAny_bind (wpAny_pure (wpAny_pure (wpAny_pure h)))
  · rintro ⟨r1, r2⟩ s' ⟨hr, rfl, x', y', xs', ys', hz, hx', hy', hlt, hlen⟩
    simp only at hr
    subst hr
    have hfin : decide (vs.size < us.size) = ltL xs ys := by
      rw [← hlt, ← hlen]
      cases hx' with
      | nil =>
        cases hy' with
        | nil => rfl
        | cons => simp [ltL]
      | cons =>
        cases hy' with
        | nil => simp [ltL]
        | cons => simp at hz
    rw [← hfin] at h
    exact wpAny_pure h
theorem ev_lt {a b : Value} {xs ys : List Int} (ha : IsV W.F a (TI xs)) (hb : IsV W.F b (TI ys)) (hu : A.units < cLine) : Ev prog w A (compareOp .Lt a b) W (V (.bool (ltL xs ys))) := by
  intro W' l s hs Q E k
  cases ha.le l with
  | @tuple a oa vs na _ hF hc hd q => cases hb.le l with
  | @tuple b ob us nb _ hF' hc' hd' q' =>
  have ta : IsTup s.heap a vs := by rw [hs]; exact ⟨oa, W'.inn _ _ hF, hc, na, hd⟩
  have tb : IsTup s.heap b us := by rw [hs]; exact ⟨ob, W'.inn _ _ hF', hc', nb, hd'⟩
  have ia : IntsAre vs.toList xs := IsVs.ints q
  have ib : IntsAre us.toList ys := IsVs.ints q'
  have z := k W' s.toks (.bool (ltL xs ys)) (.refl _) (.bool _)
  rw [← hs] at z
  show wpAny _ _ (richCompare .Lt _ _) _ _ _
  have hT : ∀ (x : Addr) (us : Array Value), IsTup s.heap x us → s.TypeIs (.ref x) "tuple" := fun x us ⟨o, e, c, _⟩ => ⟨o, e, c⟩
  exact wpAny_richCompare_same_room (hT _ _ ta) (hT _ _ tb) PySem.F.slot_tuple_lt (wpAny_call_entry PySem.F.slot_tuple_lt (hT _ _ ta) PySem.F.entry_tuple_lt (lt_tree ta tb ia ib ⟨_, rfl, (fun q => by cases q), z⟩) (PySem.F.args_tuple_lt_2 _ _)) hu
theorem tst_lt {l r : Expr} {pos : Pos} {xs ys : List Int} (h1 : Ex prog w A env l W (V (TI xs))) (h2 : Ex prog w A env r W (V (TI ys))) (hu : A.units < cLine) (hm : behindInMarks .Lt r = false) : Tst prog w A env (.Compare l [.Lt] [r] pos) W (ltL xs ys) :=
  tst_compare h1 h2 (fun W₁ W₂ a b l₁ l₂ p₁ p₂ => ev_lt (p₁.le l₂) p₂ hu) hm
end
end Mine
namespace Mine
section
variable {g : Heap} {prog : Program} {w : World} {A : Around} {B B' W W' : Wld g} {env : Env} {own : List Addr} {m : Str → Option Value} {cm : Addr → Option Value} {s : Shared} {rest : List Stmt} {Q : Flow → Shared → Prop} {E : Value → Shared → Prop}

/- while: a measure that falls -/
theorem st_while0 {test : Expr} {body : List Stmt} {pos : Pos} (Inv : Nat → Wld g → (Str → Option Value) → (Addr → Option Value) → Prop) (n : Nat) (F : FS B W env own m cm) (hs : s.heap = W.h) (h0 : Inv n W m cm)
    (turn : ∀ n (W' : Wld g) m' cm', FS B W' env own m' cm' → Inv n W' m' cm' → ∃ b, Tst prog w A env test W' b ∧
      (b = true → ∀ (W'' : Wld g) tk' (E' : Value → Shared → Prop), W'.Le W'' → wpAny (model prog w) A (execs body env) (fun f s' => f = .next ∧ ∃ n', n' < n ∧ ∃ (W₃ : Wld g) (m₃ : Str → Option Value) (cm₃ : Addr → Option Value) (tk₃ : Nat), s' = { s with heap := W₃.h, toks := tk₃ } ∧ FS B W₃ env own m₃ cm₃ ∧ Inv n' W₃ m₃ cm₃) E' { s with heap := W''.h, toks := tk' }) ∧
      (b = false → ∀ (W'' : Wld g) tk', W'.Le W'' → wpAny (model prog w) A (execs rest env) Q E { s with heap := W''.h, toks := tk' })) :
    wpAny (model prog w) A (execs (.While test body [] pos :: rest) env) Q E s := by
  refine wpAny_execs_cons (wpAny_While ?_)
  refine codeAny_whileLoop (fun n s' => ∃ (W' : Wld g) (m' : Str → Option Value) (cm' : Addr → Option Value) (tk : Nat), s' = { s with heap := W'.h, toks := tk } ∧ FS B W' env own m' cm' ∧ Inv n W' m' cm') ?_ n ⟨W, m, cm, s.toks, by rw [← hs], F, h0⟩
  rintro n s' ⟨W', m', cm', tk, rfl, F', inv⟩
  obtain ⟨b, ht, h1, h2⟩ := turn n W' m' cm' F' inv
  refine ht W' (.refl _) _ rfl _ _ fun W'' tk' b' l e => ?_
  subst e
  cases b' with
  | true =>
    simp only [if_true]
    refine wpAny_mono (h1 rfl W'' tk' (fun _ _ => False) l) (fun f s₃ h => ?_) fun _ _ e => e.elim
    obtain ⟨rfl, n', hn, W₃, m₃, cm₃, tk₃, rfl, F₃, i₃⟩ := h
    exact ⟨n', hn, W₃, m₃, cm₃, tk₃, rfl, F₃, i₃⟩
  | false =>
    simp only [Bool.false_eq_true, if_false]
    exact wpAny_execs_nil (h2 rfl W'' tk' l)

theorem st_while {t0 : Nat} {test : Expr} {body : List Stmt} {pos : Pos} (Inv : Nat → Wld g → (Str → Option Value) → (Addr → Option Value) → Prop) (n : Nat) (F : FS B W env own m cm) (_hs : W.h = W.h) (h0 : Inv n W m cm)
    (turn : ∀ n (W' : Wld g) m' cm', FS B W' env own m' cm' → Inv n W' m' cm' → ∃ b, Tst prog w A env test W' b ∧
      (b = true → ∀ (W'' : Wld g) tk' (E' : Value → Shared → Prop), W'.Le W'' → wpAny (model prog w) A (execs body env) (fun f s' => f = .next ∧ ∃ n', n' < n ∧ ∃ (W₃ : Wld g) (m₃ : Str → Option Value) (cm₃ : Addr → Option Value) (tk₃ : Nat), s' = { s with heap := W₃.h, toks := tk₃ } ∧ FS B W₃ env own m₃ cm₃ ∧ Inv n' W₃ m₃ cm₃) E' { s with heap := W''.h, toks := tk' }) ∧
      (b = false → ∀ (W'' : Wld g) tk', W'.Le W'' → wpAny (model prog w) A (execs rest env) Q E { s with heap := W''.h, toks := tk' })) :
    wpAny (model prog w) A (execs (.While test body [] pos :: rest) env) Q E { s with heap := W.h, toks := t0 } := st_while0 (s := { s with heap := W.h, toks := t0 }) Inv n F rfl h0 turn
/- a def with defaults, as its object stands -/
noncomputable def FnD (g : Heap) (a : Addr) (name : Str) (st : Stmt) (dV kV pm cd doc : Value) : Prop :=
  (∃ o, g.get? a = some o ∧ o.data = .func { Calls.docDef name (paramsOf st) (bodyOf st) (scopeOf st) pm cd doc with defaults := dV, kwdefaults := kV }) ∧ g.CodeRec cd name

/- where bisect_left ends -/
noncomputable def bisL (ts : List (List Int)) (x : List Int) : Nat → Int → Int → Int
  | 0, lo, _ => lo
  | k + 1, lo, hi => if lo < hi then
      let mid := (lo + hi).fdiv 2
      if ltL (ts.getD mid.toNat []) x then bisL ts x k (mid + 1) hi else bisL ts x k lo mid
    else lo
theorem bisL_succ (ts : List (List Int)) (x : List Int) (k : Nat) (lo hi : Int) : bisL ts x (k + 1) lo hi = if lo < hi then (if ltL (ts.getD ((lo + hi).fdiv 2).toNat []) x then bisL ts x k ((lo + hi).fdiv 2 + 1) hi else bisL ts x k lo ((lo + hi).fdiv 2)) else lo := rfl
theorem bisL_fuel (ts : List (List Int)) (x : List Int) : ∀ (k k' : Nat) (lo hi : Int), hi - lo < k → hi - lo < k' → bisL ts x k lo hi = bisL ts x k' lo hi
  | 0, 0, _, _, _, _ => rfl
  | 0, k' + 1, lo, hi, h, _ => by
    unfold bisL
    rw [if_neg (by lia)]
  | k + 1, 0, lo, hi, _, h => by
    unfold bisL
    rw [if_neg (by lia)]
  | k + 1, k' + 1, lo, hi, h, h' => by
    unfold bisL
    by_cases hlt : lo < hi
    · rw [if_pos hlt, if_pos hlt]
      have : (lo + hi).fdiv 2 = (lo + hi) / 2 := Int.fdiv_eq_ediv_of_nonneg _ (by decide)
      dsimp only
      rw [bisL_fuel ts x k k' _ hi (by lia) (by lia), bisL_fuel ts x k k' lo _ (by lia) (by lia)]
    · rw [if_neg hlt, if_neg hlt]

theorem bis_call {mg mb : Str → Option Value} {fa : Addr} {dV kV pm cd doc va vx : Value} {ts : List (List Int)} {x : List Int} {args : List Value} {tl : Tok} (H : Gd g mg mb) (hA : Ok 2 A) (fn : FnD g fa "bisect_left" (fdef 10) dV kV pm cd doc)
    (hbind : ∀ s : Shared, (∀ b o, g.get? b = some o → s.heap.get? b = some o) → BindsTo s { Calls.docDef "bisect_left" (paramsOf (fdef 10)) (bodyOf (fdef 10)) (scopeOf (fdef 10)) pm cd doc with defaults := dV, kwdefaults := kV } ⟨args, []⟩ [("a", va), ("x", vx), ("lo", .int 0 tl), ("hi", .none), ("key", .none)])
    (S0 : SL (ts.map TI) W va) (ix0 : IsV W.F vx (TI x)) (hlen : ts.length < 1000) (hml : mg "len" = none) :
    Ev prog w A (call (.ref fa) args) W (V (.int (bisL ts x (ts.length + 1) 0 ts.length))) := by
  intro W0 lw s hs Q E kk
  have S := S0.le lw
  have ix := ix0.le lw
  obtain ⟨⟨fo, ho, hd⟩, hcd⟩ := fn
  refine wp_def (hco := by rfl) (hgen := by rfl) (hk := by rfl) (W := W0) (binds := [("a", va), ("x", vx), ("lo", .int 0 tl), ("hi", .none), ("key", .none)]) hs (by have := hA.dp; lia) (W0.old ho) hd H.nl (hcd.keeps fun b o e => W0.old e) rfl (hbind s fun b o e => by rw [hs]; exact W0.old e)
    (show ∀ x ∈ (scopeOf (fdef 10)).names, x.2 ≠ .cell from by decide) (List.forall_mem_cons.mpr ⟨by rfl, List.forall_mem_cons.mpr ⟨by rfl, List.forall_mem_cons.mpr ⟨by rfl, List.forall_mem_cons.mpr ⟨by rfl, List.forall_mem_cons.mpr ⟨by rfl, fun _ h => nomatch h⟩⟩⟩⟩⟩) fun W₁ L tk l₁ hF₁ F => ?_
  generalize hm : (fun x_1 => List.lookup x_1 (List.reverse ([("a", va), ("x", vx), ("lo", .int 0 tl), ("hi", .none), ("key", .none)] : List (Str × Value))) : Str → Option Value) = m at F
  have ma : m "a" = some va := by rw [← hm]; rfl
  have mx : m "x" = some vx := by rw [← hm]; rfl
  have ml : m "lo" = some (.int 0 tl) := by rw [← hm]; rfl
  have mh : m "hi" = some .none := by rw [← hm]; rfl
  have mk : m "key" = some .none := by rw [← hm]; rfl
  generalize he : callEnv { Calls.docDef "bisect_left" (paramsOf (fdef 10)) (bodyOf (fdef 10)) (scopeOf (fdef 10)) pm cd doc with defaults := dV, kwdefaults := kV } L fa = env at F
  have hA' : Ok 1 (A.deeper env) := hA.deeper
  have ek : env.scope.kind = .function := by rw [← he]; rfl
  have eg : env.globals = mainGlobals := by rw [← he]; rfl
  have eb : env.builtins = builtinsNs := by rw [← he]; rfl
  have ka : env.kindOf "a" = some .local := by rw [← he]; rfl
  have kx : env.kindOf "x" = some .local := by rw [← he]; rfl
  have kl : env.kindOf "lo" = some .local := by rw [← he]; rfl
  have kh : env.kindOf "hi" = some .local := by rw [← he]; rfl
  have kkey : env.kindOf "key" = some .local := by rw [← he]; rfl
  have kmid : env.kindOf "mid" = some .local := by rw [← he]; rfl
  have hp : (env.scope.kind == .class || (env.scope.kind == .module && env.locals != env.globals)) = false := by rw [← he]; rfl
  -- if lo < 0
  refine st_skip rfl (tst_cmp_int (hm := by with_unfolding_all rfl) (a := 0) (b := 0) (ex_var (h1 := by decide) (h2 := by decide) ek (F.nm kl ml) (.int 0 tl)) ex_int fun t u s Q E h => P.lt_int h) fun W₂ tk₂ l₂ => ?_
  have F₂ := F.up l₂
  -- if hi is None: hi = len(a)
  refine st_if (b := true) rfl (tst_isnone (x := .none) (ex_var (h1 := by decide) (h2 := by decide) ek (F₂.nm kh mh) .none)) (fun _ W₃ tk₃ l₃ => ?_) (fun h => by cases h)
  have F₃ := F₂.up l₃
  have S₃ := S.le F₃.le
  refine st_assign (P := V (.int ts.length)) F₃ rfl ?_ kh hp (by rw [← he]; with_unfolding_all rfl) fun W₄ W₅ v₅ tk₅ l₄ i₅ F₅ sp₅ hF₅ => wpAny_execs_nil ?_
  · refine (ex_call1 (f := .builtin "len") (P₁ := SL (ts.map TI)) (P := V (.int (ts.map TI).length)) (H.builtin (hd := by decide) ek eg eb (by rw [← he]; rfl) hml (by decide) (by decide +kernel)) rfl (by rfl) (ex_val (h1 := by decide) (h2 := by decide) ek (F₃.nm ka ma) fun W' l => S₃.le l) fun W₁ a l₁ p₁ => ev_len p₁ ?_).mono fun W' v l p => ?_
    · rw [List.length_map]; lia
    · rw [List.length_map] at p; exact p
  obtain ⟨th, rfl⟩ := IsV.intI i₅
  -- if key is None
  refine st_if (b := true) rfl (tst_isnone (x := .none) (ex_var (h1 := by decide) (h2 := by decide) ek (F₅.nm kkey ((upd_ne (by decide)).trans mk)) .none)) (fun _ W₆ tk₆ l₆ => ?_) (fun h => by cases h)
  have F₆ := F₅.up l₆
  refine st_while (fun n W m cm => m "a" = some va ∧ m "x" = some vx ∧ ∃ lo hi tlo thi, m "lo" = some (.int lo tlo) ∧ m "hi" = some (.int hi thi) ∧ 0 ≤ lo ∧ lo ≤ hi ∧ hi ≤ ts.length ∧ hi - lo = (n : Int) ∧ ∀ k, n < k → bisL ts x k lo hi = bisL ts x (ts.length + 1) 0 ts.length) ts.length F₆ rfl
    ⟨(upd_ne (by decide)).trans ma, (upd_ne (by decide)).trans mx, 0, ts.length, tl, th, (upd_ne (by decide)).trans ml, upd_at, by lia, by lia, by lia, by lia, ?_⟩ ?_
  · intro k hk
    -- the fuel does not matter
    exact bisL_fuel ts x k (ts.length + 1) 0 ts.length (by lia) (by lia)
  · rintro n W₇ m₇ cm₇ F₇ ⟨ma₇, mx₇, lo, hi, tlo, thi, ml₇, mh₇, h0, h1, h2, h3, h4⟩
    refine ⟨decide (lo < hi), tst_cmp_int (hm := by with_unfolding_all rfl) (a := lo) (b := hi) (ex_var (h1 := by decide) (h2 := by decide) ek (F₇.nm kl ml₇) (.int lo tlo)) (ex_var (h1 := by decide) (h2 := by decide) ek (F₇.nm kh mh₇) (.int hi thi)) fun t u s Q E h => P.lt_int h, ?_, ?_⟩
    · intro hlt W₈ tk₈ E₈ l₈
      have hlt := of_decide_eq_true hlt
      have F₈ := F₇.up l₈
      generalize hmid : (lo + hi).fdiv 2 = mid
      have hm2 : lo ≤ mid ∧ mid < hi := by
        have : (lo + hi).fdiv 2 = (lo + hi) / 2 := Int.fdiv_eq_ediv_of_nonneg _ (by decide)
        omega
      refine st_assign (P := V (.int mid)) F₈ rfl ?_ kmid hp (by rw [← he]; with_unfolding_all rfl) fun W₉ W₁₀ v₁₀ tk₁₀ l₉ i₁₀ F₁₀ sp₁₀ hF₁₀ => ?_
      · exact ex_binop_int (a := lo + hi) (b := 2) (ex_binop_int (a := lo) (b := hi) (ex_var (h1 := by decide) (h2 := by decide) ek (F₈.nm kl ml₇) (.int lo tlo)) (ex_var (h1 := by decide) (h2 := by decide) ek (F₈.nm kh mh₇) (.int hi thi)) (fun t u s Q E nl h => P.add_int h) H.nl) ex_int (fun t u s Q E nl h => floordiv_int (by decide) (by rw [hmid]; exact h) (.inl (PyProof.noPylong_small (by decide)))) H.nl
      obtain ⟨tm, rfl⟩ := IsV.intI i₁₀
      have S₁₀ := S.le F₁₀.le
      have hget : (ts.map TI)[mid.toNat]? = some (TI (ts.getD mid.toNat [])) := by
        rw [List.getElem?_map, List.getD_eq_getElem?_getD, List.getElem?_eq_getElem (by omega)]; rfl
      have e4 := h4 (n + 1) (by lia)
      rw [bisL_succ ts x n lo hi, if_pos hlt, hmid] at e4
      refine st_if (b := ltL (ts.getD mid.toNat []) x) rfl (tst_lt (hm := by with_unfolding_all rfl) (ex_item (hsub := by intro _ _; with_unfolding_all rfl) (xs := ts.map TI) (k := mid) (ex_val (h1 := by decide) (h2 := by decide) ek (F₁₀.nm ka ((upd_ne (by decide)).trans ma₇)) fun W' l => S₁₀.le l) (ex_var (h1 := by decide) (h2 := by decide) ek (F₁₀.nm kmid upd_at) (.int mid tm)) (by omega) (by omega) hget) (ex_var (h1 := by decide) (h2 := by decide) ek (F₁₀.nm kx ((upd_ne (by decide)).trans mx₇)) (ix.le F₁₀.le)) (by have := hA'.un; lia)) ?_ ?_
      · intro hb W₁₁ tk₁₁ l₁₁
        rw [hb, if_pos rfl] at e4
        have F₁₁ := F₁₀.up l₁₁
        refine st_assign (P := V (.int (mid + 1))) F₁₁ rfl (ex_binop_int (a := mid) (b := 1) (ex_var (h1 := by decide) (h2 := by decide) ek (F₁₁.nm kmid upd_at) (.int mid tm)) ex_int (fun t u s Q E nl h => P.add_int h) H.nl) kl hp (by rw [← he]; with_unfolding_all rfl) fun W₁₂ W₁₃ v₁₃ tk₁₃ l₁₂ i₁₃ F₁₃ sp₁₃ hF₁₃ => wpAny_execs_nil (wpAny_execs_nil ?_)
        obtain ⟨t13, rfl⟩ := IsV.intI i₁₃
        refine ⟨rfl, (hi - (mid + 1)).toNat, by omega, W₁₃, _, _, _, rfl, F₁₃, (upd_ne (by decide)).trans ((upd_ne (by decide)).trans ma₇), (upd_ne (by decide)).trans ((upd_ne (by decide)).trans mx₇), mid + 1, hi, t13, thi, upd_at, (upd_ne (by decide)).trans ((upd_ne (by decide)).trans mh₇), by lia, by omega, h2, by omega, fun k hk => ?_⟩
        rw [← e4]
        exact bisL_fuel ts x k n (mid + 1) hi (by omega) (by omega)
      · intro hb W₁₁ tk₁₁ l₁₁
        rw [hb, if_neg (by decide)] at e4
        have F₁₁ := F₁₀.up l₁₁
        refine st_assign (P := V (.int mid)) F₁₁ rfl (ex_var (h1 := by decide) (h2 := by decide) ek (F₁₁.nm kmid upd_at) (.int mid tm)) kh hp (by rw [← he]; with_unfolding_all rfl) fun W₁₂ W₁₃ v₁₃ tk₁₃ l₁₂ i₁₃ F₁₃ sp₁₃ hF₁₃ => wpAny_execs_nil (wpAny_execs_nil ?_)
        obtain ⟨t13, rfl⟩ := IsV.intI i₁₃
        refine ⟨rfl, (mid - lo).toNat, by omega, W₁₃, _, _, _, rfl, F₁₃, (upd_ne (by decide)).trans ((upd_ne (by decide)).trans ma₇), (upd_ne (by decide)).trans ((upd_ne (by decide)).trans mx₇), lo, mid, tlo, t13, (upd_ne (by decide)).trans ((upd_ne (by decide)).trans ml₇), upd_at, h0, by lia, by omega, by lia, fun k hk => ?_⟩
        rw [← e4]
        exact bisL_fuel ts x k n lo mid (by omega) (by omega)
    · intro hge W₈ tk₈ l₈
      have hge := of_decide_eq_false hge
      have e4 := h4 (n + 1) (by lia)
      rw [bisL_succ ts x n lo hi, if_neg hge] at e4
      refine wpAny_execs_nil ?_
      refine st_return rfl (P := V (.int (bisL ts x (ts.length + 1) 0 ts.length))) ?_ fun W' v tk l₉ p => kk W' tk v ((F₇.up l₈).le.trans l₉) p
      rw [← e4]
      exact ex_var (h1 := by decide) (h2 := by decide) ek ((F₇.up l₈).nm kl ml₇) (.int lo tlo)
end
end Mine
namespace Mine
section
variable {g : Heap} {prog : Program} {w : World} {A : Around} {B B' W W' : Wld g} {env : Env} {own : List Addr} {m : Str → Option Value} {cm : Addr → Option Value} {s : Shared} {rest : List Stmt} {Q : Flow → Shared → Prop} {E : Value → Shared → Prop}

theorem ex_callF4 {x : Str} {np pos : Pos} {e₁ e₂ e₃ e₄ : Expr} {f : Addr} {P₁ P₂ P₃ P₄ P : Wld g → Value → Prop} (hf : Ex prog w A env (.Name x np) W fun _ v => v = .ref f) (hm : ∃ o fd, W.F f = some o ∧ o.data = .func fd) (hst : starEach [e₁, e₂, e₃, e₄] env = [(false, eval e₁ env), (false, eval e₂ env), (false, eval e₃ env), (false, eval e₄ env)])
    (h1 : Ex prog w A env e₁ W P₁) (h2 : Ex prog w A env e₂ W P₂) (h3 : Ex prog w A env e₃ W P₃) (h4 : Ex prog w A env e₄ W P₄) (h : ∀ W₁ W₂ W₃ W₄ a b c d, W.Le W₁ → W₁.Le W₂ → W₂.Le W₃ → W₃.Le W₄ → P₁ W₁ a → P₂ W₂ b → P₃ W₃ c → P₄ W₄ d → Ev prog w A (call (.ref f) [a, b, c, d]) W₄ P) : Ex prog w A env (.Call (.Name x np) [e₁, e₂, e₃, e₄] [] pos) W P := by
  intro W' lw s hs Q E k
  obtain ⟨o, fd, hF, hd⟩ := hm
  rw [eval_Call_Name, hst]
  refine wpAny_bind (hf W' lw s hs _ _ fun W₁ tk v l₁ e => ?_)
  subst e
  refine callWith_function (evalArgs_plain (spliced_cons (h1 W₁ (lw.trans l₁) _ rfl _ _ fun W₂ tk₂ a l₂ p₂ => spliced_cons (h2 W₂ ((lw.trans l₁).trans l₂) _ rfl _ _ fun W₃ tk₃ b l₃ p₃ =>
    spliced_cons (h3 W₃ (((lw.trans l₁).trans l₂).trans l₃) _ rfl _ _ fun W₄ tk₄ c l₄ p₄ => spliced_cons (h4 W₄ ((((lw.trans l₁).trans l₂).trans l₃).trans l₄) _ rfl _ _ fun W₅ tk₅ d l₅ p₅ => spliced_nil ⟨⟨W₅.inn _ _ (l₅.fz _ _ (l₄.fz _ _ (l₃.fz _ _ (l₂.fz _ _ (l₁.fz _ _ (lw.fz _ _ hF)))))), hd⟩, ?_⟩))))))
  exact h W₂ W₃ W₄ W₅ _ b c d ((lw.trans l₁).trans l₂) l₃ l₄ l₅ p₂ p₃ p₄ p₅ W₅ (.refl _) _ rfl Q E fun W₆ tk₆ v l₆ p₆ => k W₆ tk₆ v (((((l₁.trans l₂).trans l₃).trans l₄).trans l₅).trans l₆) p₆
theorem IsVs.take {F : Fz} : ∀ {vs ds} (_ : IsVs F vs ds) (k : Nat), IsVs F (vs.take k) (ds.take k)
  | _, _, .nil, _ => by rw [List.take_nil, List.take_nil]; exact .nil
  | _, _, .cons a b, 0 => .nil
  | _, _, .cons a b, k + 1 => .cons a (b.take k)
theorem IsVs.drop {F : Fz} : ∀ {vs ds} (_ : IsVs F vs ds) (k : Nat), IsVs F (vs.drop k) (ds.drop k)
  | _, _, .nil, _ => by rw [List.drop_nil, List.drop_nil]; exact .nil
  | _, _, .cons a b, 0 => .cons a b
  | _, _, .cons a b, k + 1 => b.drop k
theorem wp_insert0 {D : Addr} {xs : List PyData} {v : Value} {y : PyData} {x : Int} {t : Tok} {Q : Value → Shared → Prop} {E : Value → Shared → Prop} (U : UL W D xs) (hv : IsV W.F v y) (hx0 : 0 ≤ x) (hx1 : x ≤ xs.length) (hl : xs.length < 1000) (hs : s.heap = W.h)
    (k : ∀ (W' : Wld g) tk, UL W' D (xs.take x.toNat ++ y :: xs.drop x.toNat) → W'.F = W.F → (∀ b o, b ≠ D → W.h.get? b = some o → W'.h.get? b = some o) → Q .none { s with heap := W'.h, toks := tk }) :
    wpAny (model prog w) A (call (.builtin "list.insert") [.ref D, .int x t, v]) Q E s := by
  have h1000 : 1000 ≤ sizeLine := by decide
  have hc0 : ¬(!Builtin.List.listFitsIndex x) = true := by simp [Builtin.List.listFitsIndex]; lia
  have gm := fun (vs : Array Value) (n : Nat) (e : vs.size = xs.length) => AutoListH.list_insert_list_int_val_1 D vs n x t v hc0 (Nat.le_trans (by lia) h1000)
  refine wp_listop0 U PySem.F.slot_list_insert PySem.F.entry_list_insert (PySem.F.args_list_insert_3 _ _ _) gm (fun vs q => ?_) hs k
  have e : vs.size = xs.length := by have := q.length; simpa using this
  show IsVs W.F ((vs.extract 0 (if x < 0 then (x + ((vs.size : Nat) : Int)).toNat else min x.toNat vs.size)).push v ++ vs.extract (if x < 0 then (x + ((vs.size : Nat) : Int)).toNat else min x.toNat vs.size)).toList _
  rw [if_neg (by lia), Nat.min_eq_left (by lia)]
  have z := (q.take x.toNat).append ((IsVs.one hv).append (q.drop x.toNat))
  have e2 : List.take (vs.size - x.toNat) (List.drop x.toNat vs.toList) = List.drop x.toNat vs.toList := List.take_of_length_le (by simp)
  simp
  rw [e2]
  simpa using z
theorem wp_insert {t0 : Nat} {D : Addr} {xs : List PyData} {v : Value} {y : PyData} {x : Int} {t : Tok} {Q : Value → Shared → Prop} {E : Value → Shared → Prop} (U : UL W D xs) (hv : IsV W.F v y) (hx0 : 0 ≤ x) (hx1 : x ≤ xs.length) (hl : xs.length < 1000) (_hs : W.h = W.h)
    (k : ∀ (W' : Wld g) tk, UL W' D (xs.take x.toNat ++ y :: xs.drop x.toNat) → W'.F = W.F → (∀ b o, b ≠ D → W.h.get? b = some o → W'.h.get? b = some o) → Q .none { s with heap := W'.h, toks := tk }) :
    wpAny (model prog w) A (call (.builtin "list.insert") [.ref D, .int x t, v]) Q E { s with heap := W.h, toks := t0 } := wp_insert0 (s := { s with heap := W.h, toks := t0 }) U hv hx0 hx1 hl rfl k
/- a method of a list, two arguments -/
theorem st_method20 {o e e' : Expr} {name : Str} {id : String} {apos pos spos : Pos} {D : Addr} {P P' : Wld g → Value → Prop} (hs : s.heap = W.h)
    (ho : Ex prog w A env o W fun _ v => v = .ref D) (hl : ∀ W', W.Le W' → ∃ xs, UL W' D xs) (slot : Slot "list" name id) (hty : typeOf (.builtin id) = pure (.type "method_descriptor"))
    (he : Ex prog w A env e W P) (he' : Ex prog w A env e' W P') (hbase : attributeBase o name env (eval o env) = eval o env) (hst : starEach [e, e'] env = [(false, eval e env), (false, eval e' env)]) (hline : (apos.endLine == pos.line) = true)
    (hi : interactive env = false) (hsw : swapsWith (.Call (.Attribute o name apos) [e, e'] [] pos) none spos.line env = pure false)
    (k : ∀ (W₁ W₂ : Wld g) v v' tk, W.Le W₁ → W₁.Le W₂ → P W₁ v → P' W₂ v' → wpAny (model prog w) A (call (.builtin id) [.ref D, v, v']) (fun _ s' => wpAny (model prog w) A (execs rest env) Q E s') E { s with heap := W₂.h, toks := tk }) :
    wpAny (model prog w) A (execs (.Expr (.Call (.Attribute o name apos) [e, e'] [] pos) spos :: rest) env) Q E s := by
  refine wpAny_execs_cons (wpAny_Expr_any ?_ hi hsw)
  refine wpAny_Call_method2_late hbase hline (by rw [hst]; rfl) (ho W (.refl _) s hs _ _ fun W₁ tk v l₁ e₁ => ?_)
  subst e₁
  obtain ⟨xs, vs, n, eD, _, _⟩ := hl W₁ l₁
  refine ⟨"list", id, PySem.F.plainAttrs_list, slot, hty, ⟨_, eD, rfl⟩, (fun a q => by cases q; exact ⟨_, eD, rfl⟩), ?_⟩
  exact callWith_builtin rfl (evalArgs_plain (spliced_cons (he W₁ l₁ _ rfl _ _ fun W₂ tk₂ v l₂ p₂ => spliced_cons (he' W₂ (l₁.trans l₂) _ rfl _ _ fun W₃ tk₃ v' l₃ p₃ => spliced_nil (k W₂ W₃ v v' tk₃ (l₁.trans l₂) l₃ p₂ p₃)))))

theorem st_method2 {t0 : Nat} {o e e' : Expr} {name : Str} {id : String} {apos pos spos : Pos} {D : Addr} {P P' : Wld g → Value → Prop} (_hs : W.h = W.h)
    (ho : Ex prog w A env o W fun _ v => v = .ref D) (hl : ∀ W', W.Le W' → ∃ xs, UL W' D xs) (slot : Slot "list" name id) (hty : typeOf (.builtin id) = pure (.type "method_descriptor"))
    (he : Ex prog w A env e W P) (he' : Ex prog w A env e' W P') (hbase : attributeBase o name env (eval o env) = eval o env) (hst : starEach [e, e'] env = [(false, eval e env), (false, eval e' env)]) (hline : (apos.endLine == pos.line) = true)
    (hi : interactive env = false) (hsw : swapsWith (.Call (.Attribute o name apos) [e, e'] [] pos) none spos.line env = pure false)
    (k : ∀ (W₁ W₂ : Wld g) v v' tk, W.Le W₁ → W₁.Le W₂ → P W₁ v → P' W₂ v' → wpAny (model prog w) A (call (.builtin id) [.ref D, v, v']) (fun _ s' => wpAny (model prog w) A (execs rest env) Q E s') E { s with heap := W₂.h, toks := tk }) :
    wpAny (model prog w) A (execs (.Expr (.Call (.Attribute o name apos) [e, e'] [] pos) spos :: rest) env) Q E { s with heap := W.h, toks := t0 } := st_method20 (s := { s with heap := W.h, toks := t0 }) rfl ho hl slot hty he he' hbase hst hline hi hsw k
noncomputable def insL (ts : List (List Int)) (x : List Int) : List (List Int) :=
  ts.take (bisL ts x (ts.length + 1) 0 ts.length).toNat ++ x :: ts.drop (bisL ts x (ts.length + 1) 0 ts.length).toNat
theorem bisL_bd (ts : List (List Int)) (x : List Int) : ∀ (k : Nat) (lo hi : Int), 0 ≤ lo → lo ≤ hi → lo ≤ bisL ts x k lo hi ∧ bisL ts x k lo hi ≤ hi
  | 0, lo, hi, _, h => by unfold bisL; lia
  | k + 1, lo, hi, h0, h => by
    rw [bisL_succ]
    by_cases hlt : lo < hi
    · rw [if_pos hlt]
      have e : (lo + hi).fdiv 2 = (lo + hi) / 2 := Int.fdiv_eq_ediv_of_nonneg _ (by decide)
      have z1 := bisL_bd ts x k ((lo + hi).fdiv 2 + 1) hi (by lia) (by lia)
      have z2 := bisL_bd ts x k lo ((lo + hi).fdiv 2) (by omega) (by lia)
      split <;> omega
    · rw [if_neg hlt]; lia

/- insort_left and bisect_left, as they stand -/
structure Bis (g : Heap) (mg : Str → Option Value) where
  ab : Addr
  ai : Addr
  dVb : Value
  kVb : Value
  pmb : Value
  cdb : Value
  docb : Value
  dVi : Value
  kVi : Value
  pmi : Value
  cdi : Value
  doci : Value
  tb : Tok
  ti : Tok
  fb : FnD g ab "bisect_left" (fdef 10) dVb kVb pmb cdb docb
  fi : FnD g ai "insort_left" (fdef 9) dVi kVi pmi cdi doci
  bb2 : ∀ (va vx : Value) (s : Shared), (∀ b o, g.get? b = some o → s.heap.get? b = some o) → BindsTo s { Calls.docDef "bisect_left" (paramsOf (fdef 10)) (bodyOf (fdef 10)) (scopeOf (fdef 10)) pmb cdb docb with defaults := dVb, kwdefaults := kVb } ⟨[va, vx], []⟩ [("a", va), ("x", vx), ("lo", .int 0 tb), ("hi", .none), ("key", .none)]
  bb4 : ∀ (va vx : Value) (t : Tok) (s : Shared), (∀ b o, g.get? b = some o → s.heap.get? b = some o) → BindsTo s { Calls.docDef "bisect_left" (paramsOf (fdef 10)) (bodyOf (fdef 10)) (scopeOf (fdef 10)) pmb cdb docb with defaults := dVb, kwdefaults := kVb } ⟨[va, vx, .int 0 t, .none], []⟩ [("a", va), ("x", vx), ("lo", .int 0 t), ("hi", .none), ("key", .none)]
  bi2 : ∀ (va vx : Value) (s : Shared), (∀ b o, g.get? b = some o → s.heap.get? b = some o) → BindsTo s { Calls.docDef "insort_left" (paramsOf (fdef 9)) (bodyOf (fdef 9)) (scopeOf (fdef 9)) pmi cdi doci with defaults := dVi, kwdefaults := kVi } ⟨[va, vx], []⟩ [("a", va), ("x", vx), ("lo", .int 0 ti), ("hi", .none), ("key", .none)]
  mb : mg "bisect_left" = some (.ref ab)
  mi : mg "insort_left" = some (.ref ai)

theorem FnD.fn {a : Addr} {nm : Str} {st : Stmt} {dV kV pm cd doc : Value} (x : FnD g a nm st dV kV pm cd doc) : ∃ o fd, W.F a = some o ∧ o.data = .func fd := let ⟨⟨o, e, d⟩, _⟩ := x; ⟨o, _, W.base _ _ e, d⟩

theorem ins_call {mg mb : Str → Option Value} {vx : Value} {ts : List (List Int)} {x : List Int} {D : Addr} {Q : Value → Shared → Prop} {E : Value → Shared → Prop} (H : Gd g mg mb) (N : Bis g mg) (hA : Ok 4 A) (hs : s.heap = W.h) (U : UL W D (ts.map TI)) (ix : IsV W.F vx (TI x)) (hlen : ts.length < 999) (hml : mg "len" = none)
    (kk : ∀ (W' : Wld g) tk, (W.hide D U.ui.un).Le W' → UL W' D ((insL ts x).map TI) → Q .none { s with heap := W'.h, toks := tk }) :
    wpAny (model prog w) A (call (.ref N.ai) [.ref D, vx]) Q E s := by
  obtain ⟨⟨fo, ho, hd⟩, hcd⟩ := N.fi
  refine wp_def (hco := by rfl) (hgen := by rfl) (hk := by rfl) (W := W) (binds := [("a", .ref D), ("x", vx), ("lo", .int 0 N.ti), ("hi", .none), ("key", .none)]) hs (by have := hA.dp; lia) (W.old ho) hd H.nl (hcd.keeps fun b o e => W.old e) rfl (N.bi2 _ _ s fun b o e => by rw [hs]; exact W.old e)
    (show ∀ x ∈ (scopeOf (fdef 9)).names, x.2 ≠ .cell from by decide) (List.forall_mem_cons.mpr ⟨by rfl, List.forall_mem_cons.mpr ⟨by rfl, List.forall_mem_cons.mpr ⟨by rfl, List.forall_mem_cons.mpr ⟨by rfl, List.forall_mem_cons.mpr ⟨by rfl, fun _ h => nomatch h⟩⟩⟩⟩⟩) fun W₁ L tk l₁ hF₁ F0 => ?_
  have F : FS (W.hide D U.ui.un) W₁ _ [] _ _ := F0.rebase hide_le
  have U₁ := U.up l₁
  generalize hm : (fun x_1 => List.lookup x_1 (List.reverse ([("a", .ref D), ("x", vx), ("lo", .int 0 N.ti), ("hi", .none), ("key", .none)] : List (Str × Value))) : Str → Option Value) = m at F
  have ma : m "a" = some (.ref D) := by rw [← hm]; rfl
  have mx : m "x" = some vx := by rw [← hm]; rfl
  have ml : m "lo" = some (.int 0 N.ti) := by rw [← hm]; rfl
  have mh : m "hi" = some .none := by rw [← hm]; rfl
  have mk : m "key" = some .none := by rw [← hm]; rfl
  generalize he : callEnv { Calls.docDef "insort_left" (paramsOf (fdef 9)) (bodyOf (fdef 9)) (scopeOf (fdef 9)) N.pmi N.cdi N.doci with defaults := N.dVi, kwdefaults := N.kVi } L N.ai = env at F
  have hA' : Ok 3 (A.deeper env) := hA.deeper
  have ek : env.scope.kind = .function := by rw [← he]; rfl
  have eg : env.globals = mainGlobals := by rw [← he]; rfl
  have ka : env.kindOf "a" = some .local := by rw [← he]; rfl
  have kx : env.kindOf "x" = some .local := by rw [← he]; rfl
  have kl : env.kindOf "lo" = some .local := by rw [← he]; rfl
  have kh : env.kindOf "hi" = some .local := by rw [← he]; rfl
  have kkey : env.kindOf "key" = some .local := by rw [← he]; rfl
  have hp : (env.scope.kind == .class || (env.scope.kind == .module && env.locals != env.globals)) = false := by rw [← he]; rfl
  refine st_if (b := true) rfl (tst_isnone (x := .none) (ex_var (h1 := by decide) (h2 := by decide) ek (F.nm kkey mk) .none)) (fun _ W₃ tk₃ l₃ => ?_) (fun h => by cases h)
  have F₃ := F.up l₃
  have U₃ := U₁.up l₃
  have ix₃ : IsV W₃.F vx (TI x) := (ix.le l₁).le l₃
  generalize hr : bisL ts x (ts.length + 1) 0 ts.length = r
  have hrb : 0 ≤ r ∧ r ≤ ts.length := by rw [← hr]; exact bisL_bd ts x _ 0 _ (by decide) (by lia)
  -- lo = bisect_left(a, x, lo, hi)
  refine st_assign (P := V (.int r)) F₃ rfl ?_ kl hp (by rw [← he]; with_unfolding_all rfl) fun W₄ W₅ v₅ tk₅ l₄ i₅ F₅ sp₅ hF₅ => wpAny_execs_nil ?_
  · rw [← hr]
    refine ex_callF4 (P₁ := fun _ v => v = .ref D) (P₂ := fun _ v => v = vx) (P₃ := fun _ v => v = .int 0 N.ti) (P₄ := fun _ v => v = .none) (ex_global (hd := by decide) ek eg (by rw [← he]; rfl) H.G N.mb) N.fb.fn (by rfl) (ex_val (h1 := by decide) (h2 := by decide) ek (F₃.nm ka ma) fun _ _ => rfl) (ex_val (h1 := by decide) (h2 := by decide) ek (F₃.nm kx mx) fun _ _ => rfl) (ex_val (h1 := by decide) (h2 := by decide) ek (F₃.nm kl ml) fun _ _ => rfl) (ex_val (h1 := by decide) (h2 := by decide) ek (F₃.nm kh mh) fun _ _ => rfl) fun V₁ V₂ V₃ V₄ a b c d k₁ k₂ k₃ k₄ e₁ e₂ e₃ e₄ => ?_
    subst e₁ e₂ e₃ e₄
    have lV := ((k₁.trans k₂).trans k₃).trans k₄
    exact bis_call H (hA'.le (by decide)) N.fb (N.bb4 _ _ _) (U₃.up lV).sl (ix₃.le lV) (by omega) hml
  obtain ⟨tr, rfl⟩ := IsV.intI i₅
  have U₅ : UL W₅ D (ts.map TI) := (U₃.up l₄).soft sp₅.so
  have ix₅ : IsV W₅.F vx (TI x) := (ix₃.le l₄).mono sp₅.so.fz
  -- a.insert(lo, x)
  refine st_method2 (D := D) (P := fun _ v => v = .int r tr) (P' := V (TI x)) rfl (ex_val (h1 := by decide) (h2 := by decide) (P := fun _ v => v = .ref D) ek (F₅.nm ka ((upd_ne (by decide)).trans ma)) fun _ _ => rfl) (fun W' l => ⟨_, U₅.up l⟩) PySem.F.slot_list_insert PySem.F.type_list_insert
    (ex_val (h1 := by decide) (h2 := by decide) ek (F₅.nm kl upd_at) fun _ _ => rfl) (ex_var (h1 := by decide) (h2 := by decide) ek (F₅.nm kx ((upd_ne (by decide)).trans mx)) ix₅) (by rw [← he]; rfl) (by rfl) (by rfl) (by rw [← he]; with_unfolding_all rfl) (by rw [← he]; with_unfolding_all rfl) fun W₆ W₇ v v' tk₇ l₆ l₇ e₆ i₇ => ?_
  subst e₆
  have U₇ := U₅.up (l₆.trans l₇)
  refine wp_insert U₇ i₇ hrb.1 (by rw [List.length_map]; lia) (by rw [List.length_map]; lia) rfl fun W₈ tk₈ U₈ hF₈ kp₈ => ?_
  have F₈ := ((F₅.up (l₆.trans l₇)).list U₇ hide_none hF₈ kp₈).1
  refine wpAny_execs_nil (kk W₈ tk₈ F₈.le ?_)
  have e : (insL ts x).map TI = (ts.map TI).take r.toNat ++ TI x :: (ts.map TI).drop r.toNat := by
    unfold insL
    rw [hr, List.map_append, List.map_cons, List.map_take, List.map_drop]
  rw [e]
  exact U₈
end
end Mine
namespace Mine
section
variable {g : Heap} {prog : Program} {w : World} {A : Around} {B B' W W' : Wld g} {env : Env} {own : List Addr} {m : Str → Option Value} {cm : Addr → Option Value} {s : Shared} {rest : List Stmt} {Q : Flow → Shared → Prop} {E : Value → Shared → Prop}

/- a part of a slice -/
noncomputable def Part (prog : Program) (w : World) (A : Around) (env : Env) (W : Wld g) (e : Option Expr) (o : Option Int) : Prop := Ev prog w A (evalPart e env) W fun _ v => IsPart v o
theorem part_none : Part prog w A env W none none := Ev.pure fun _ _ => .none
theorem part_some {e : Expr} {k : Int} (h : Ex prog w A env e W (V (.int k))) : Part prog w A env W (some e) (some k) := h.mono fun _ _ _ p => by cases p; exact .int _ _
theorem evn_slice0 {value : Expr} {lower upper : Option Expr} {p pos : Pos} {lo hi : Option Int} {xs ys : List PyData} (h1 : Ex prog w A env value W (SL xs)) (hl : Part prog w A env W lower lo) (hu : Part prog w A env W upper hi)
    (pick : ∀ (F : Fz) (items : Array Value), items.size = xs.length → IsVs F items.toList xs → IsVs F (slicePick items lo hi none).toList ys) (hlen : xs.length ≤ sizeLine) :
    EvN prog w A (eval (.Subscript value (.Slice lower upper none p) pos) env) W ys := by
  intro W' lw s hs Q E k
  refine Subscript_ (h1 W' lw s hs _ _ fun W₁ tk a l₁ p₁ => wpAny_Slice (hl W₁ (lw.trans l₁) _ rfl _ _ fun W₂ tk₂ vl l₂ p₂ => hu W₂ ((lw.trans l₁).trans l₂) _ rfl _ _ fun W₃ tk₃ vu l₃ p₃ => ?_))
  rw [evalPart_none]
  refine wpAny_pure ?_
  obtain ⟨D, vs, rfl, hl', q⟩ := (p₁.le l₂).le l₃
  have e : vs.size = xs.length := by have := q.length; simpa using this
  refine tail_any (T := "list") (hl'.push _).typeIs list_getitem_lookup (wpAny_getItem_list_slice (hl'.push _) (Heap.IsSliceOf.new ..) p₂ p₃ .none (by simp) ?_ (by lia)) rfl
  obtain ⟨W₄, e4, l4, eF4, _, _⟩ := Wld.push_new (W := W₃) (s := { s with heap := W₃.h, toks := tk₃ }) rfl { cls := .type "slice", data := .fields #[vl, vu, .none] } rfl
  obtain ⟨W₅, e5, l5, eF5, e6, h0⟩ := Wld.push_new (W := W₄) (s := { s with heap := W₄.h, toks := tk₃ }) rfl { cls := .type "list", data := .seq (slicePick vs lo hi none) } rfl
  have z := k W₅ tk₃ (.ref W₄.h.objs.size) ((((l₁.trans l₂).trans l₃).trans l4).trans l5) ⟨_, _, _, rfl, e6, by rw [eF5]; exact Wld.F_none h0, by rw [eF5, eF4]; exact pick _ _ e q, (((l₁.trans l₂).trans l₃).trans l4).none h0⟩
  rw [e5, e4] at z
  exact z
theorem evn_sliceR {value st : Expr} {p pos : Pos} {xs : List PyData} (h1 : Ex prog w A env value W (SL xs)) (hs' : Ex prog w A env st W (V (.int (-1)))) (hlen : xs.length ≤ sizeLine) :
    EvN prog w A (eval (.Subscript value (.Slice none none (some st) p) pos) env) W xs.reverse := by
  intro W' lw s hs Q E k
  refine Subscript_ (h1 W' lw s hs _ _ fun W₁ tk a l₁ p₁ => wpAny_Slice ?_)
  rw [evalPart_none]
  refine wpAny_pure (wpAny_pure ?_)
  rw [evalPart_some]
  refine hs' W₁ (lw.trans l₁) _ rfl _ _ fun W₃ tk₃ vst l₃ p₃ => ?_
  obtain ⟨t3, rfl⟩ := IsV.intI p₃
  obtain ⟨D, vs, rfl, hl', q⟩ := p₁.le l₃
  have e : vs.size = xs.length := by have := q.length; simpa using this
  refine tail_any (T := "list") (hl'.push _).typeIs list_getitem_lookup (wpAny_getItem_list_slice (hl'.push _) (Heap.IsSliceOf.new ..) .none .none (.int (-1) t3) (by decide) ?_ (by lia)) rfl
  obtain ⟨W₄, e4, l4, eF4, _, _⟩ := Wld.push_new (W := W₃) (s := { s with heap := W₃.h, toks := tk₃ }) rfl { cls := .type "slice", data := .fields #[.none, .none, .int (-1) t3] } rfl
  obtain ⟨W₅, e5, l5, eF5, e6, h0⟩ := Wld.push_new (W := W₄) (s := { s with heap := W₄.h, toks := tk₃ }) rfl { cls := .type "list", data := .seq (slicePick vs none none (some (-1))) } rfl
  have z := k W₅ tk₃ (.ref W₄.h.objs.size) (((l₁.trans l₃).trans l4).trans l5) ⟨_, _, _, rfl, e6, by rw [eF5]; exact Wld.F_none h0, by rw [eF5, eF4, PySem.W.krv_pick]; simpa using q.rev, ((l₁.trans l₃).trans l4).none h0⟩
  rw [e5, e4] at z
  exact z
theorem evn_upto {value e : Expr} {p pos : Pos} {xs : List PyData} {b : Nat} (h1 : Ex prog w A env value W (SL xs)) (hu : Ex prog w A env e W (V (.int (b : Int)))) (hlen : xs.length ≤ sizeLine) :
    EvN prog w A (eval (.Subscript value (.Slice none (some e) none p) pos) env) W (xs.take b) :=
  evn_slice0 h1 part_none (part_some hu) (fun F items hi q => by rw [slicePick_upto']; simpa using q.take b) hlen
theorem evn_run {value e e' : Expr} {p pos : Pos} {xs : List PyData} {a b : Nat} (h1 : Ex prog w A env value W (SL xs)) (hl : Ex prog w A env e W (V (.int (a : Int)))) (hu : Ex prog w A env e' W (V (.int (b : Int)))) (hab : a ≤ b) (hb : b ≤ xs.length) (hlen : xs.length ≤ sizeLine) :
    EvN prog w A (eval (.Subscript value (.Slice (some e) (some e') none p) pos) env) W ((xs.drop a).take (b - a)) :=
  evn_slice0 h1 (part_some hl) (part_some hu) (fun F items hi q => by rw [slicePick_run items a b (by lia) hab]; simpa using (q.drop a).take (b - a)) hlen

/- the law's own words -/
noncomputable def lawEnv (L a : Addr) (cd : Value) : Env := envOfC "law" (scopeOf (fdef 14)) L a cd
noncomputable def lawOwn (L : Addr) : List Addr := [L + 9, L + 8, L + 7, L + 6, L + 5, L + 4, L + 3, L + 2, L + 1]
theorem lo9 {L : Addr} : L + 9 ∈ lawOwn L := .head _
theorem lo8 {L : Addr} : L + 8 ∈ lawOwn L := .tail _ (.head _)
theorem lo7 {L : Addr} : L + 7 ∈ lawOwn L := .tail _ (.tail _ (.head _))
theorem lo6 {L : Addr} : L + 6 ∈ lawOwn L := .tail _ (.tail _ (.tail _ (.head _)))
theorem lo5 {L : Addr} : L + 5 ∈ lawOwn L := .tail _ (.tail _ (.tail _ (.tail _ (.head _))))
theorem lo4 {L : Addr} : L + 4 ∈ lawOwn L := .tail _ (.tail _ (.tail _ (.tail _ (.tail _ (.head _)))))
theorem lo3 {L : Addr} : L + 3 ∈ lawOwn L := .tail _ (.tail _ (.tail _ (.tail _ (.tail _ (.tail _ (.head _))))))
theorem lo2 {L : Addr} : L + 2 ∈ lawOwn L := .tail _ (.tail _ (.tail _ (.tail _ (.tail _ (.tail _ (.tail _ (.head _)))))))
theorem lo1 {L : Addr} : L + 1 ∈ lawOwn L := .tail _ (.tail _ (.tail _ (.tail _ (.tail _ (.tail _ (.tail _ (.tail _ (.head _))))))))
noncomputable def lawB (n : Nat) : List Stmt := (bodyOf (fdef 14)).drop n
noncomputable def pOf (S : List Int) : Int := ([2, 3, 5] : List Int).getD (S.sum.fmod 3).toNat 0
noncomputable def manyOf (S : List Int) : Nat := (1 + (S.sum.fdiv 3).fmod 3).toNat
noncomputable def numsOf (S : List Int) : List Int := ((S ++ List.replicate 9 0).take 9).map fun (n : Int) => n.fmod (pOf S)
noncomputable def tabOf (S : List Int) : List (List Int) := (List.range (manyOf S)).map fun k => ((numsOf S).drop (3 * k)).take 3
noncomputable def everyOf (p : Int) : List (List Int) := (List.range p.toNat).flatMap fun (a : Nat) => (List.range p.toNat).flatMap fun (b : Nat) => (List.range p.toNat).map fun (c : Nat) => [(a : Int), (b : Int), (c : Int)]
noncomputable def zeroB (T : List (List Int)) (p : Int) (v : List Int) : Bool := (madeOf T v p).sum == 0
noncomputable def nothingOf (T : List (List Int)) (p : Int) : List (List Int) := (everyOf p).filter (zeroB T p)
theorem pOf_ok (S : List Int) : PrimeOk (pOf S) := by
  unfold pOf
  have h0 := Int.fmod_nonneg_of_pos S.sum (show (0 : Int) < 3 by decide)
  have h1 := Int.fmod_lt_of_pos S.sum (show (0 : Int) < 3 by decide)
  have : S.sum.fmod 3 = 0 ∨ S.sum.fmod 3 = 1 ∨ S.sum.fmod 3 = 2 := by lia
  rcases this with h | h | h <;> rw [h]
  · exact .inl rfl
  · exact .inr (.inl rfl)
  · exact .inr (.inr rfl)
theorem manyOf_bd (S : List Int) : 1 ≤ manyOf S ∧ manyOf S ≤ 3 := by
  unfold manyOf
  have h0 := Int.fmod_nonneg_of_pos (S.sum.fdiv 3) (show (0 : Int) < 3 by decide)
  have h1 := Int.fmod_lt_of_pos (S.sum.fdiv 3) (show (0 : Int) < 3 by decide)
  omega
theorem numsOf_len (S : List Int) : (numsOf S).length = 9 := by
  unfold numsOf
  rw [List.length_map, List.length_take, List.length_append, List.length_replicate]; lia
theorem numsOf_bd (S : List Int) : ∀ x ∈ numsOf S, 0 ≤ x ∧ x < pOf S := by
  intro x hx
  obtain ⟨n, _, rfl⟩ := List.mem_map.mp hx
  exact fmod_bd (pOf_ok S) n
theorem tabOf_len (S : List Int) : (tabOf S).length = manyOf S := by unfold tabOf; rw [List.length_map, List.length_range]
theorem tabOf_bd (S : List Int) : Bd (pOf S) 3 (tabOf S) := by
  intro r hr
  obtain ⟨k, hk, rfl⟩ := List.mem_map.mp hr
  have hk := List.mem_range.mp hk
  have := (manyOf_bd S).2
  refine ⟨?_, fun x hx => numsOf_bd S x (List.mem_of_mem_drop (List.mem_of_mem_take hx))⟩
  rw [List.length_take, List.length_drop, numsOf_len]; lia
theorem everyOf_bd {p : Int} : ∀ v ∈ everyOf p, v.length = 3 ∧ ∀ x ∈ v, 0 ≤ x ∧ x < p := by
  intro v hv
  unfold everyOf at hv
  obtain ⟨a, ha, hv⟩ := List.mem_flatMap.mp hv
  obtain ⟨b, hb, hv⟩ := List.mem_flatMap.mp hv
  obtain ⟨c, hc, rfl⟩ := List.mem_map.mp hv
  have ha := List.mem_range.mp ha
  have hb := List.mem_range.mp hb
  have hc := List.mem_range.mp hc
  refine ⟨rfl, fun x hx => ?_⟩
  simp only [List.mem_cons, List.not_mem_nil, or_false] at hx
  rcases hx with rfl | rfl | rfl <;> lia
end
end Mine
namespace Mine
set_option maxHeartbeats 4000000
noncomputable def onTB (f : List Int → Bool) : PyData → Bool
  | .tuple xs => f (xs.map toI)
  | _ => false
theorem onTB_TI (f : List Int → Bool) (r : List Int) : onTB f (TI r) = f r := by
  show f ((r.map PyData.int).map toI) = f r
  rw [toI_map]
theorem filter_TI (f : List Int → Bool) : ∀ rows : List (List Int), (rows.map TI).filter (onTB f) = (rows.filter f).map TI
  | [] => rfl
  | r :: rows => by
    rw [List.map_cons, List.filter_cons, List.filter_cons, onTB_TI, filter_TI f rows]
    cases f r <;> rfl
noncomputable def onT (f : List Int → PyData) : PyData → PyData
  | .tuple xs => f (xs.map toI)
  | _ => .none
theorem onT_TI (f : List Int → PyData) (r : List Int) : onT f (TI r) = f r := by
  show f ((r.map PyData.int).map toI) = f r
  rw [toI_map]

/- what the law's other names mean -/
structure LawF (g : Heap) (mg : Str → Option Value) extends Nums g mg, Bis g mg where
  aL : Addr
  aM : Addr
  cL : Value
  cM : Value
  fL : FnAt g aL "_law_left" (fdef 12) cL
  fM : FnAt g aM "_law_made" (fdef 13) cM
  mL : mg "_law_left" = some (.ref aL)
  mM : mg "_law_made" = some (.ref aM)
  ns : mg "sum" = none
  ng : mg "range" = none
  nt : mg "tuple" = none
  no : mg "sorted" = none
  ni : mg "int" = none
  nli : mg "list" = none

section
variable {g : Heap} {prog : Program} {w : World} {A : Around} {B B' W W' : Wld g} {env : Env} {own : List Addr} {m : Str → Option Value} {cm : Addr → Option Value} {s : Shared} {rest : List Stmt} {Q : Flow → Shared → Prop} {E : Value → Shared → Prop}
variable {mg mb : Str → Option Value} {L fa : Addr} {cd : Value}

theorem Nm.inMap {n : Str} {v : Value} (x : Nm W.h env n v) (F : FS B W env own m cm) (hk : env.kindOf n = some .local) : m n = some v := by
  rcases x with ⟨_, m', ns, e⟩ | ⟨h, _⟩
  · rw [F.loc.eq_nsMap, ← ns.eq_nsMap]; exact e
  · rcases h with h | h <;> (rw [hk] at h; cases h)
/- what holds from the seventh statement on -/
structure LS (L : Addr) (p : Int) (T : List (List Int)) (W : Wld g) (m : Str → Option Value) (cm : Addr → Option Value) : Prop where
  pr : ∃ v, cm (L + 1) = some v ∧ IsV W.F v (.int p)
  tb : ∃ v, cm (L + 3) = some v ∧ IsV W.F v (.list (T.map LI))
  lf : ∃ v, cm (L + 4) = some v ∧ IsV W.F v (.list ((leftOf p 3 T).map LI))
  rk : ∃ v, cm (L + 5) = some v ∧ IsV W.F v (.int (leftOf p 3 T).length)
  ev : ∃ v, m "every" = some v ∧ IsV W.F v (.list ((everyOf p).map TI))
  no : ∃ v, cm (L + 7) = some v ∧ IsV W.F v (.list ((nothingOf T p).map TI))
theorem LS.keep {p : Int} {T : List (List Int)} {m' : Str → Option Value} {cm' : Addr → Option Value} (x : LS L p T W m cm) (fz : ∀ a o, W.F a = some o → W'.F a = some o) (hm : m' "every" = m "every") (h1 : cm' (L + 1) = cm (L + 1)) (h3 : cm' (L + 3) = cm (L + 3)) (h4 : cm' (L + 4) = cm (L + 4)) (h5 : cm' (L + 5) = cm (L + 5)) (h7 : cm' (L + 7) = cm (L + 7)) : LS L p T W' m' cm' where
  pr := let ⟨v, e, q⟩ := x.pr; ⟨v, h1.trans e, q.mono fz⟩
  tb := let ⟨v, e, q⟩ := x.tb; ⟨v, h3.trans e, q.mono fz⟩
  lf := let ⟨v, e, q⟩ := x.lf; ⟨v, h4.trans e, q.mono fz⟩
  rk := let ⟨v, e, q⟩ := x.rk; ⟨v, h5.trans e, q.mono fz⟩
  ev := let ⟨v, e, q⟩ := x.ev; ⟨v, hm.trans e, q.mono fz⟩
  no := let ⟨v, e, q⟩ := x.no; ⟨v, h7.trans e, q.mono fz⟩

theorem every_out {p : Int} (hp : PrimeOk p) : ((rng 0 p.toNat).flatMap fun a => (rng 0 p.toNat).flatMap fun b => (rng 0 p.toNat).flatMap fun c => [PyData.tuple [a, b, c]]) = (everyOf p).map TI := by
  rcases hp with rfl | rfl | rfl <;> rfl
theorem rngP {p : Int} (hp : PrimeOk p) : Builtin.Range.small 0 p 1 = true ∧ Builtin.Range.rangeSize 0 p 1 = (p.toNat : Int) := by
  rcases hp with rfl | rfl | rfl <;> decide
theorem leftOf_bd {p : Int} {nc : Nat} {T : List (List Int)} (hp : PrimeOk p) (hT : Bd p nc T) : Bd p nc (leftOf p nc T) ∧ (leftOf p nc T).length ≤ nc := by
  have key : ∀ i : Nat, (Bd p nc ((List.range i).foldl (lstep p) (T, [])).1 ∧ Bd p nc ((List.range i).foldl (lstep p) (T, [])).2) ∧ ((List.range i).foldl (lstep p) (T, [])).2.length ≤ i := by
    intro i
    induction i with
    | zero => exact ⟨⟨hT, fun r hr => nomatch hr⟩, Nat.le_refl _⟩
    | succ i ih =>
      rw [List.range_succ, List.foldl_append]
      exact ⟨lstep_bd hp ih.1.1 ih.1.2, Nat.le_trans (lstep_len _).2 (Nat.succ_le_succ ih.2)⟩
  exact ⟨(key nc).1.2, (key nc).2⟩
theorem everyOf_len {p : Int} (hp : PrimeOk p) : (everyOf p).length ≤ 125 := by rcases hp with rfl | rfl | rfl <;> decide +kernel

theorem law_A1 {S : List Int} {vs : Value} (H : Gd g mg mb) (N : LawF g mg) (hA : Ok 20 A) (hs : s.heap = W.h) (F : FS B W (lawEnv L fa cd) (lawOwn L) m cm) (hms : m "script" = some vs) (is : IsV W.F vs (LI S)) (hS : S.length ≤ 63)
    (k : ∀ (W' : Wld g) m' cm' tk, FS B W' (lawEnv L fa cd) (lawOwn L) m' cm' → (∃ v, cm' (L + 1) = some v ∧ IsV W'.F v (.int (pOf S))) → (∃ v, cm' (L + 3) = some v ∧ IsV W'.F v (.list ((tabOf S).map LI))) →
      wpAny (model prog w) A (execs (lawB 3) (lawEnv L fa cd)) Q E { s with heap := W'.h, toks := tk }) :
    wpAny (model prog w) A (execs (bodyOf (fdef 14)) (lawEnv L fa cd)) Q E s := by
  refine wp_norm hs ?_
  have hp := pOf_ok S
  have hpp := hp.pos
  have sz : ∀ n, n ≤ 1000 → n ≤ sizeLine := fun n h => Nat.le_trans h (by decide)
  have esum : ∀ {W₁ : Wld g} {np cp : Pos} {xp : Pos}, Nm W₁.h (lawEnv L fa cd) "script" vs → IsV W₁.F vs (LI S) → Ex prog w A (lawEnv L fa cd) (.Call (.Name "sum" np) [.Name "script" xp] [] cp) W₁ (V (.int S.sum)) := fun nm i =>
    ex_call1 (H.builtin (hd := by decide) rfl rfl rfl (by rfl) N.ns (by decide) (by decide +kernel)) rfl rfl (P₁ := SL (S.map .int)) (ex_var (h1 := by decide) (h2 := by decide) rfl nm i).sl (fun W₁ a l₁ p₁ => ev_sum (src_list (A := A.in1) hA.hh p₁) fun W₂ l₂ => src_list (A := A.in1) hA.hh (p₁.le l₂))
  -- prime, many = ...
  refine st_pair (cx := some (L + 1)) (cy := none) (R₁ := fun _ => V (.int (pOf S))) (R₂ := fun _ => V (.int (manyOf S))) hA.hh rfl F rfl ?_ ?_ (by rfl) (.cel (L + 1) rfl (by rfl) (by rfl) (by first | exact lo1 | exact lo2 | exact lo3 | exact lo4 | exact lo5 | exact lo6 | exact lo7 | exact lo8 | exact lo9)) (.loc rfl (by rfl) (by rfl)) (by with_unfolding_all rfl) (by with_unfolding_all rfl) ?_
  · refine Ev.ge (ex_item (hsub := by intro _ _; with_unfolding_all rfl) (xs := [.int 2, .int 3, .int 5]) (k := S.sum.fmod 3) (EvN.sl (ex_list (.cons ex_int (.cons ex_int (.cons ex_int .nil))) rfl (by decide))) (ex_binop_int (a := S.sum) (b := 3) (esum (F.nm (by rfl) hms) is) ex_int (fun t u s Q E nl h => mod_int' (by decide) h) H.nl) (Int.fmod_nonneg_of_pos _ (by decide)) (by have := Int.fmod_lt_of_pos S.sum (show (0 : Int) < 3 by decide); omega) ?_)
    have h0 := Int.fmod_nonneg_of_pos S.sum (show (0 : Int) < 3 by decide)
    have h1 := Int.fmod_lt_of_pos S.sum (show (0 : Int) < 3 by decide)
    unfold pOf
    have : S.sum.fmod 3 = 0 ∨ S.sum.fmod 3 = 1 ∨ S.sum.fmod 3 = 2 := by lia
    rcases this with h | h | h <;> rw [h] <;> rfl
  · have e : (manyOf S : Int) = 1 + (S.sum.fdiv 3).fmod 3 := by
      unfold manyOf
      have h0 := Int.fmod_nonneg_of_pos (S.sum.fdiv 3) (show (0 : Int) < 3 by decide)
      omega
    rw [e]
    exact Ev.ge (ex_binop_int (a := 1) (b := (S.sum.fdiv 3).fmod 3) ex_int (ex_binop_int (a := S.sum.fdiv 3) (b := 3) (ex_binop_int (a := S.sum) (b := 3) (esum (F.nm (by rfl) hms) is) ex_int (fun t u s Q E nl h => floordiv_int (by decide) h (.inl (PyProof.noPylong_small (by decide)))) H.nl) ex_int (fun t u s Q E nl h => mod_int' (by decide) h) H.nl) (fun t u s Q E nl h => P.add_int h) H.nl)
  intro W₁ W₂ W₃ W₄ a b tk m₁ cm₁ m₂ cm₂ l₁ r₁ l₂ r₂ s₃ s₄ F₄ hm₁ hc₁ nm₁ F₃ hm₂ hc₂ nm₂
  have fz₄ : ∀ x o, W.F x = some o → W₄.F x = some o := fun x o e => s₄.so.fz x o (s₃.so.fz x o (l₂.fz x o (l₁.fz x o e)))
  have ip₄ : IsV W₄.F a (.int (pOf S)) := ((r₁.le l₂).mono s₃.so.fz).mono s₄.so.fz
  have im₄ : IsV W₄.F b (.int (manyOf S)) := (r₂.mono s₃.so.fz).mono s₄.so.fz
  have is₄ := is.mono fz₄
  have ms₄ : m₂ "script" = some vs := (hm₂ _ (by decide)).trans ((hm₁ _ (by decide)).trans hms)
  have cp₄ : cm₂ (L + 1) = some a := by
    rw [hc₂ _ (by simp)]
    have z := nm₁.cell (c := L + 1) (by rfl) (by rfl)
    exact IsCell.eq (F₃.cl (L + 1) (by first | exact lo1 | exact lo2 | exact lo3 | exact lo4 | exact lo5 | exact lo6 | exact lo7 | exact lo8 | exact lo9)).1 z
  have icP := F₄.ic (c := L + 1) (by first | exact lo1 | exact lo2 | exact lo3 | exact lo4 | exact lo5 | exact lo6 | exact lo7 | exact lo8 | exact lo9) cp₄
  -- numbers
  refine st_assignC (c := L + 2) (P := V (LI (numsOf S))) F₄ rfl ?_ rfl (by rfl) (by rfl) (by first | exact lo1 | exact lo2 | exact lo3 | exact lo4 | exact lo5 | exact lo6 | exact lo7 | exact lo8 | exact lo9) (by with_unfolding_all rfl) fun W₅ W₆ vn tk₆ l₅ inn F₆ s₆ hF₆ => ?_
  · refine EvN.frz (EvN.cast (evn_map (xs := ((S ++ List.replicate 9 0).map PyData.int).take 9) (onI fun n => .int (n.fmod (pOf S))) (fun _ => rfl) (by with_unfolding_all rfl) rfl (by decide) (fun C => ⟨[], .nil (fun _ _ => rfl) (fun _ => rfl), .loc (by rfl) (by rfl) (List.mem_singleton_self _)⟩)
      (Ev.srcL hA.hh (EvN.sl (evn_upto (b := 9) (Ev.mono (P := SL (S.map PyData.int ++ (List.replicate 9 [PyData.int 0]).flatten)) (EvN.sl (evn_addE (xs := S.map .int) (ys := (List.replicate 9 [PyData.int 0]).flatten) (ex_var (h1 := by decide) (h2 := by decide) rfl (F₄.nm (by rfl) ms₄) is₄).sl (EvN.sl (evn_mulE (xs := [.int 0]) (x := 9) (EvN.sl (ex_list (.cons ex_int .nil) rfl (by decide))) ex_int (by decide) (by decide) (by decide))) (sz _ (by rw [List.length_map]; show S.length + 9 ≤ 1000; lia)))) fun _ _ _ q => ?_) ex_int (sz _ ?_)))) (sz _ ?_) fun y hy W' C v l iv nm => ?_) ?_)
    · have e : S.map PyData.int ++ (List.replicate 9 [PyData.int 0]).flatten = (S ++ List.replicate 9 0).map .int := by rw [List.map_append]; rfl
      rw [← e]; exact q
    · rw [List.length_map, List.length_append, List.length_replicate]; lia
    · rw [List.length_take]; lia
    · obtain ⟨n, _, rfl⟩ := List.mem_map.mp (List.mem_of_mem_take hy)
      exact ex_binop_int (a := n) (b := pOf S) (ex_var (h1 := by decide) (h2 := by decide) rfl nm iv) (ex_var (h1 := by decide) (h2 := by decide) rfl (nm_free (c := L + 1) (IsCell.le l icP) (.inl (by rfl)) (by rfl)) (ip₄.le l)) (fun t u s Q E nl h => mod_int' (by lia) h) H.nl
    · unfold numsOf
      rw [← List.map_take, List.map_map, List.map_map]; rfl
  have in₆ : IsV W₆.F vn (LI (numsOf S)) := inn.mono s₆.so.fz
  have ip₆ := (ip₄.le l₅).mono s₆.so.fz
  have im₆ := (im₄.le l₅).mono s₆.so.fz
  have icN := F₆.ic (c := L + 2) (by first | exact lo1 | exact lo2 | exact lo3 | exact lo4 | exact lo5 | exact lo6 | exact lo7 | exact lo8 | exact lo9) upd_at
  have hmb := manyOf_bd S
  -- table
  refine st_assignC (c := L + 3) (P := V (.list ((tabOf S).map LI))) F₆ rfl ?_ rfl (by rfl) (by rfl) (by first | exact lo1 | exact lo2 | exact lo3 | exact lo4 | exact lo5 | exact lo6 | exact lo7 | exact lo8 | exact lo9) (by with_unfolding_all rfl) fun W₇ W₈ vt tk₈ l₇ it F₈ s₈ hF₈ => ?_
  · refine EvN.frz (EvN.cast (evn_map (xs := rng 0 (manyOf S)) (onI fun k => LI (((numsOf S).drop (3 * k.toNat)).take 3)) (fun _ => rfl) (by with_unfolding_all rfl) rfl (by decide) (fun C => ⟨[], .nil (fun _ _ => rfl) (fun _ => rfl), .loc (by rfl) (by rfl) (List.mem_singleton_self _)⟩)
      (Ev.srcR (n := manyOf S) hA.hh (ex_call1 (f := .type "range") (P₁ := V (.int (manyOf S))) (P := Rg 0 (manyOf S)) (H.builtin (hd := by decide) rfl rfl rfl (by rfl) N.ng (by decide) (by decide +kernel)) rfl rfl ?_ fun W₁ a l₁ p₁ => ev_range1I p₁) ?_ ?_) (by rw [rng_len]; exact sz _ (by lia)) fun y hy W' C v l iv nm => ?_) ?_)
    · exact ex_var (h1 := by decide) (h2 := by decide) rfl (F₆.nm (by rfl) (nm₂.inMap F₄ (by rfl))) im₆
    · have : manyOf S = 1 ∨ manyOf S = 2 ∨ manyOf S = 3 := by lia
      rcases this with h | h | h <;> rw [h] <;> decide
    · have : manyOf S = 1 ∨ manyOf S = 2 ∨ manyOf S = 3 := by lia
      rcases this with h | h | h <;> rw [h] <;> decide
    · obtain ⟨kk, rfl, hk0, hk1⟩ := mem_rng hy
      obtain ⟨j, rfl⟩ := Int.eq_ofNat_of_zero_le hk0
      have e1 : (3 * (j : Int)) = ((3 * j : Nat) : Int) := by lia
      have e2 : (3 * (j : Int) + 3) = ((3 * j + 3 : Nat) : Int) := by lia
      refine EvN.frz (EvN.cast (evn_run (xs := (numsOf S).map .int) (a := 3 * j) (b := 3 * j + 3) (ex_var (h1 := by decide) (h2 := by decide) rfl (nm_free (c := L + 2) (IsCell.le l icN) (.inl (by rfl)) (by rfl)) (in₆.le l)).sl ?_ ?_ (by lia) (by rw [List.length_map, numsOf_len]; lia) (by rw [List.length_map, numsOf_len]; decide)) ?_)
      · rw [← e1]
        exact ex_binop_int (a := 3) (b := (j : Int)) ex_int (ex_var (h1 := by decide) (h2 := by decide) rfl nm iv) (fun t u s Q E nl h => P.mul_int h (IntMulOk.of_left (small_bits (by decide)))) H.nl
      · rw [← e2]
        exact ex_binop_int (a := 3 * (j : Int)) (b := 3) (ex_binop_int (a := 3) (b := (j : Int)) ex_int (ex_var (h1 := by decide) (h2 := by decide) rfl nm iv) (fun t u s Q E nl h => P.mul_int h (IntMulOk.of_left (small_bits (by decide)))) H.nl) ex_int (fun t u s Q E nl h => P.add_int h) H.nl
      · rw [← List.map_drop, ← List.map_take, Int.toNat_natCast, Nat.add_sub_cancel_left]
    · rw [rng_map]
      unfold tabOf
      rw [List.map_map]
      refine List.map_congr_left fun k _ => ?_
      show LI _ = LI _
      rw [Int.zero_add, Int.toNat_natCast]
  refine k W₈ _ _ tk₈ F₈ ⟨a, ?_, (ip₆.le l₇).mono s₈.so.fz⟩ ⟨vt, upd_at, it.mono s₈.so.fz⟩
  exact (upd_ne (ad_ne (by decide))).trans ((upd_ne (ad_ne (by decide))).trans cp₄)
end
end Mine
namespace Mine
section
variable {g : Heap} {prog : Program} {w : World} {A : Around} {B B' W W' : Wld g} {env : Env} {own : List Addr} {m : Str → Option Value} {cm : Addr → Option Value} {s : Shared} {rest : List Stmt} {Q : Flow → Shared → Prop} {E : Value → Shared → Prop}
variable {mg mb : Str → Option Value} {L fa : Addr} {cd : Value}

theorem flatMap_len (f : PyData → List PyData) (n : Nat) (h : ∀ x, (f x).length ≤ n) : ∀ l : List PyData, (l.flatMap f).length ≤ l.length * n
  | [] => by simp
  | x :: l => by
    rw [List.flatMap_cons, List.length_append, List.length_cons, Nat.succ_mul, Nat.add_comm]
    exact Nat.add_le_add (flatMap_len f n h l) (h x)
theorem Nm.inCI {W₀ : Wld g} {D : Addr} {ys : List PyData} {cenv : Env} {n : Str} {v : Value} (x : Nm W.h cenv n v) (C : CI W₀ W cenv own D m cm ys) (hk : cenv.kindOf n = some .local) : m n = some v := by
  rcases x with ⟨_, m', ns, e⟩ | ⟨h, _⟩
  · rw [C.loc.eq_nsMap, ← ns.eq_nsMap]; exact e
  · rcases h with h | h <;> (rw [hk] at h; cases h)
/- a list is changed no more -/
theorem UL.freeze {D : Addr} {xs : List PyData} (U : UL W D xs) (F : FS B W env own m cm) (h0 : B.h.get? D = none) : ∃ W' : Wld g, W'.h = W.h ∧ FS B W' env own m cm ∧ IsV W'.F (.ref D) (.list xs) ∧ (∀ a o, W.F a = some o → W'.F a = some o) := by
  obtain ⟨vs, n, e, f, q⟩ := U
  have nt := W.not_tab e list_mv
  have ne : ∀ a o, W.h.get? a = some o → (∀ vs n, o.data ≠ .seq vs n) → a ≠ D := fun a o ea hd q => by
    subst q; rw [e] at ea; cases ea; exact hd _ _ rfl
  have Fn : ∀ a o, W.h.get? a = some o → (∀ vs n, o.data ≠ .seq vs n) → W.F a = none → (W.freeze D _ e nt.1 nt.2 f).F a = none := fun a o ea hd hf => (if_neg (ne a o ea hd)).trans hf
  refine ⟨W.freeze D _ e nt.1 nt.2 f, rfl, ⟨F.le.freeze e nt.1 nt.2 f h0, F.loc, ?_, F.loc0, fun c hc => ?_⟩, .list Wld.freeze_at rfl rfl (q.mono Wld.freeze_fz), Wld.freeze_fz⟩
  · obtain ⟨o, es, ep, eL, d, _⟩ := F.loc
    exact Fn _ o eL (fun vs n z => by rw [d] at z; cases z) F.locF
  · obtain ⟨⟨o, ec, d⟩, hf, z⟩ := F.cl c hc
    exact ⟨⟨o, ec, d⟩, Fn _ o ec (fun vs n z => by rw [d] at z; cases z) hf, z⟩
theorem isNone_list {xs : List PyData} : isNone (.list xs) = false := rfl

/- `sum(_law_made(t, row, prime)) == 0`, asked within a comprehension -/
theorem tst_zero {cenv : Env} {np np2 p1 p2 p3 cp cp2 pos p4 : Pos} {k4 : Nat} {x y : Str} {T : List (List Int)} {p : Int} {r : List Int} (H : Gd g mg mb) (N : LawF g mg) (hA : Ok 20 A) (ek : cenv.scope.kind = .function) (eg : cenv.globals = mainGlobals) (eb : cenv.builtins = builtinsNs)
    (ksum : cenv.kindOf "sum" = some .globalImplicit) (kmade : cenv.kindOf "_law_made" = some .globalImplicit) (hst : starEach [.Call (.Name "_law_made" np2) [.Name x p1, .Name y p2, .Name "prime" p3] [] cp2] cenv = [(false, eval (.Call (.Name "_law_made" np2) [.Name x p1, .Name y p2, .Name "prime" p3] [] cp2) cenv)]) (hst2 : starEach [.Name x p1, .Name y p2, .Name "prime" p3] cenv = [(false, eval (.Name x p1) cenv), (false, eval (.Name y p2) cenv), (false, eval (.Name "prime" p3) cenv)])
    (h1 : Ex prog w A cenv (.Name x p1) W (V (.list (T.map LI)))) (h2 : Ex prog w A cenv (.Name y p2) W (V (TI r))) (h3 : Ex prog w A cenv (.Name "prime" p3) W (V (.int p))) (hp : PrimeOk p) (hT : Bd p 3 T) (hTl : T.length ≤ 3) (hr : r.length = 3 ∧ ∀ x ∈ r, 0 ≤ x ∧ x < p) :
    Tst prog w A cenv (.Compare (.Call (.Name "sum" np) [.Call (.Name "_law_made" np2) [.Name x p1, .Name y p2, .Name "prime" p3] [] cp2] [] cp) [.Eq] [.Constant (.int 0) k4 p4] pos) W (zeroB T p r) := by
  have hpp := hp.pos
  refine tst_cmp_int (hm := by with_unfolding_all rfl) (a := (madeOf T r p).sum) (b := 0) ?_ ex_int fun t u s Q E h => wpAny_eq_int h
  refine ex_call1 (H.builtin (hd := by decide) ek eg eb ksum N.ns (by decide) (by decide +kernel)) rfl hst (P₁ := V (TI (madeOf T r p))) ?_ fun W₁ a l₁ p₁ => ev_sum (src_tuple (A := A.in1) hA.hh (show ST ((madeOf T r p).map .int) W₁ a from IsV.st p₁)) fun W₂ l₂ => src_tuple (A := A.in1) hA.hh (show ST ((madeOf T r p).map .int) W₂ a from IsV.st (p₁.le l₂))
  refine ex_callF3 (ex_global (hd := by decide) ek eg kmade H.G N.mM) N.fM.fn hst2 h1 h2 h3 fun W₁ W₂ W₃ a b c l₁ l₂ l₃ p₁ p₂ p₃ => ?_
  exact made_call H (hA.le (by decide)) N.fM ((p₁.le l₂).le l₃) (p₂.le l₃) p₃ (by lia) (fun r hr => (hT r hr).1) hr.1 (fun r hr x hx => by have := (hT r hr).2 x hx; lia) (fun x hx => by have := hr.2 x hx; lia) (by lia) N.nt N.ns N.ng

theorem law_A2 {p : Int} {T : List (List Int)} (H : Gd g mg mb) (N : LawF g mg) (hA : Ok 20 A) (hs : s.heap = W.h) (F : FS B W (lawEnv L fa cd) (lawOwn L) m cm) (hp : PrimeOk p) (hT : Bd p 3 T) (hT1 : T ≠ []) (hT3 : T.length ≤ 3)
    (pr : ∃ v, cm (L + 1) = some v ∧ IsV W.F v (.int p)) (tb : ∃ v, cm (L + 3) = some v ∧ IsV W.F v (.list (T.map LI)))
    (k : ∀ (W' : Wld g) m' cm' tk, FS B W' (lawEnv L fa cd) (lawOwn L) m' cm' → LS L p T W' m' cm' → wpAny (model prog w) A (execs (lawB 8) (lawEnv L fa cd)) Q E { s with heap := W'.h, toks := tk }) :
    wpAny (model prog w) A (execs (lawB 3) (lawEnv L fa cd)) Q E s := by
  refine wp_norm hs ?_
  have hpp := hp.pos
  have sz : ∀ n, n ≤ 1000 → n ≤ sizeLine := fun n h => Nat.le_trans h (by decide)
  obtain ⟨vp, cp, ip⟩ := pr
  obtain ⟨vt, ct, it⟩ := tb
  have D : DmOk prog w g (.ref N.a7) := dm_ok H N.toNums
  have hlb := leftOf_bd hp hT
  -- left = _law_left(table, prime)
  refine st_assignC (c := L + 4) (P := V (.list ((leftOf p 3 T).map LI))) F rfl ?_ rfl (by rfl) (by rfl) (by first | exact lo1 | exact lo2 | exact lo3 | exact lo4 | exact lo5 | exact lo6 | exact lo7 | exact lo8 | exact lo9) (by with_unfolding_all rfl) fun W₁ W₂ vl tk₂ l₁ il F₂ s₂ hF₂ => ?_
  · refine ex_callF2 (P₁ := V (.list (T.map LI))) (P₂ := V (.int p)) (ex_global (hd := by decide) rfl rfl (by rfl) H.G N.mL) N.fL.fn rfl (ex_var (h1 := by decide) (h2 := by decide) rfl (F.nmC (by rfl) (by rfl) (by first | exact lo1 | exact lo2 | exact lo3 | exact lo4 | exact lo5 | exact lo6 | exact lo7 | exact lo8 | exact lo9) ct) it) (ex_var (h1 := by decide) (h2 := by decide) rfl (F.nmC (by rfl) (by rfl) (by first | exact lo1 | exact lo2 | exact lo3 | exact lo4 | exact lo5 | exact lo6 | exact lo7 | exact lo8 | exact lo9) cp) ip) fun V₁ V₂ a b k₁ k₂ p₁ p₂ => ?_
    exact left_call H (hA.le (by decide)) D N.fL (p₁.le k₂) p₂ hp hT hT1 hT3 (by decide) N.m7 N.nli N.nl N.ng
  have il₂ := il.mono s₂.so.fz
  have ip₂ := (ip.le l₁).mono s₂.so.fz
  have it₂ := (it.le l₁).mono s₂.so.fz
  -- if left is None
  refine st_skip rfl (tst_isnone (x := .list ((leftOf p 3 T).map LI)) (ex_var (h1 := by decide) (h2 := by decide) rfl (F₂.nmC (by rfl) (by rfl) (by first | exact lo1 | exact lo2 | exact lo3 | exact lo4 | exact lo5 | exact lo6 | exact lo7 | exact lo8 | exact lo9) upd_at) il₂)) fun W₃ tk₃ l₃ => ?_
  have F₃ := F₂.up l₃
  -- rank = len(left)
  refine st_assignC (c := L + 5) (P := V (.int (leftOf p 3 T).length)) F₃ rfl ?_ rfl (by rfl) (by rfl) (by first | exact lo1 | exact lo2 | exact lo3 | exact lo4 | exact lo5 | exact lo6 | exact lo7 | exact lo8 | exact lo9) (by with_unfolding_all rfl) fun W₄ W₅ vr tk₅ l₄ ir F₅ s₅ hF₅ => ?_
  · refine (ex_call1 (f := .builtin "len") (P₁ := SL ((leftOf p 3 T).map LI)) (P := V (.int ((leftOf p 3 T).map LI).length)) (H.builtin (hd := by decide) rfl rfl rfl (by rfl) N.nl (by decide) (by decide +kernel)) rfl rfl (ex_var (h1 := by decide) (h2 := by decide) rfl (F₃.nmC (by rfl) (by rfl) (by first | exact lo1 | exact lo2 | exact lo3 | exact lo4 | exact lo5 | exact lo6 | exact lo7 | exact lo8 | exact lo9) upd_at) (il₂.le l₃)).sl fun W₁ a l₁ p₁ => ev_len p₁ ?_).mono fun W' v l p => ?_
    · rw [List.length_map]; have := hlb.2; lia
    · rw [List.length_map] at p; exact p
  have so₅ : Soft (lawEnv L fa cd).locals W₂ W₅ := ((Soft.of_le l₃).trans (.of_le l₄)).trans s₅.so
  have ip₅ := ip₂.mono so₅.fz
  have it₅ := it₂.mono so₅.fz
  have il₅ := il₂.mono so₅.fz
  have ir₅ := ir.mono s₅.so.fz
  have cp₅ : upd (upd cm (L + 4) vl) (L + 5) vr (L + 1) = some vp := (upd_ne (ad_ne (by decide))).trans ((upd_ne (ad_ne (by decide))).trans cp)
  have ct₅ : upd (upd cm (L + 4) vl) (L + 5) vr (L + 3) = some vt := (upd_ne (ad_ne (by decide))).trans ((upd_ne (ad_ne (by decide))).trans ct)
  have icP := F₅.ic (c := L + 1) (by first | exact lo1 | exact lo2 | exact lo3 | exact lo4 | exact lo5 | exact lo6 | exact lo7 | exact lo8 | exact lo9) cp₅
  have rgP := rngP hp
  have erange : ∀ {cenv : Env} {W' : Wld g} {np xp cpos : Pos}, W₅.Le W' → cenv.scope.kind = .function → cenv.globals = mainGlobals → cenv.builtins = builtinsNs → cenv.kindOf "range" = some .globalImplicit → cenv.kindOf "prime" = some .free ∨ cenv.kindOf "prime" = some .cell → cenv.cells.lookup ("prime" : Str) = some (L + 1) →
      starEach [.Name "prime" xp] cenv = [(false, eval (.Name "prime" xp) cenv)] → Ex prog w A cenv (.Call (.Name "range" np) [.Name "prime" xp] [] cpos) W' (Rg 0 p) := fun l ek eg eb kr kp hc hst =>
    ex_call1 (f := .type "range") (P₁ := V (.int p)) (P := Rg 0 p) (H.builtin (hd := by decide) ek eg eb kr N.ng (by decide) (by decide +kernel)) rfl hst (ex_var (h1 := by decide) (h2 := by decide) ek (nm_free (c := L + 1) (IsCell.le l icP) kp.symm hc) (ip₅.le l)) fun W₁ a l₁ p₁ => ev_range1I p₁
  -- every
  refine st_comp (vs := ["a", "b", "c"]) (xs := rng 0 p.toNat) (fun a => (rng 0 p.toNat).flatMap fun b => (rng 0 p.toNat).flatMap fun c => [PyData.tuple [a, b, c]]) _ F₅ rfl (by rfl) (by rfl) (by with_unfolding_all rfl) rfl (fun _ => rfl) (by with_unfolding_all rfl) rfl (by decide) (fun C => ⟨[], .nil (fun _ _ => rfl) (fun _ => rfl), .loc (by rfl) (by rfl) (by simp)⟩)
    (Ev.srcR (n := p.toNat) hA.hh (erange (.refl _) rfl rfl rfl (by rfl) (.inr (by rfl)) (by rfl) rfl) rgP.1 rgP.2) (fun I D C => compTurn_mid rfl rfl) ?_ ?_
  · intro W₀ W' own' I D C i ya va ys m' cm' s' E' l₀ hOwn hya hys hva C' nma hs'
    have own0 : own' = [] := by
      cases hOwn with
      | nil => rfl
      | one x h h' => exact absurd (h 0 []) (by simp; intro q; cases q)
    subst own0
    have l5 : W₅.Le W' := l₀.trans C'.le
    refine turn_mid (vs := ["a", "b", "c"]) (vs' := ["b", "c"]) (a := 0) (b := p) (n := p.toNat) (fun b => (rng 0 p.toNat).flatMap fun c => [PyData.tuple [ya, b, c]]) _ hA.hh hs' C' rfl (fun _ => rfl) rfl rfl (erange l5 rfl rfl rfl (by rfl) (.inr (by rfl)) (by rfl) rfl) rgP.1 rgP.2 (.loc (by rfl) (by rfl) (by first | exact m5_1 | exact m5_2 | exact m5_3 | exact m5_4 | exact m5_5 | exact m3_1 | exact m3_2 | exact m3_3 | exact m2_1 | exact m2_2 | exact List.mem_singleton_self _ | simp)) (by simp) (fun I => compTurn_mid rfl rfl) ?_
    intro W'' I₂ j yb vb ys₂ m₂ cm₂ s₂' E₂ hFF hyb hvb hys₂ C₂ ag₂ nmb hs₂'
    have l5' : W₅.Le W'' := l₀.trans C₂.le
    refine turn_mid (vs := ["b", "c"]) (vs' := ["c"]) (a := 0) (b := p) (n := p.toNat) (fun c => [PyData.tuple [ya, yb, c]]) _ hA.hh hs₂' C₂ rfl (fun _ => rfl) rfl rfl (erange l5' rfl rfl rfl (by rfl) (.inr (by rfl)) (by rfl) rfl) rgP.1 rgP.2 (.loc (by rfl) (by rfl) (by first | exact m5_1 | exact m5_2 | exact m5_3 | exact m5_4 | exact m5_5 | exact m3_1 | exact m3_2 | exact m3_3 | exact m2_1 | exact m2_2 | exact List.mem_singleton_self _ | simp)) (by simp) (fun I => compTurn_last rfl rfl) ?_
    intro W₃' I₃ j' yc vc ys₃ m₃ cm₃ s₃' E₃ hFF3 hyc hvc hys₃ C₃ ag₃ nmc hs₃'
    obtain ⟨ka, rfl, _, _⟩ := mem_rng (List.mem_of_getElem? hya)
    obtain ⟨kb, rfl, _, _⟩ := mem_rng (List.mem_of_getElem? hyb)
    obtain ⟨kc, rfl, _, _⟩ := mem_rng (List.mem_of_getElem? hyc)
    obtain ⟨ta, rfl⟩ := IsV.intI hva
    obtain ⟨tb, rfl⟩ := IsV.intI hvb
    have ea : m₃ "a" = some (.int ka ta) := (ag₃ _ (by simp; decide)).trans ((ag₂ _ (by simp; decide)).trans (nma.inCI C' (by rfl)))
    have eb : m₃ "b" = some (.int kb tb) := (ag₃ _ (by simp; decide)).trans (nmb.inCI C₂ (by rfl))
    have b1 : p.toNat ≤ 5 := by lia
    have n1 : ∀ (f : PyData → List PyData) (n k : Nat), k ≤ 5 → (∀ x, (f x).length ≤ n) → (((rng 0 p.toNat).take k).flatMap f).length ≤ 5 * n := fun f n k hk h => by
      refine Nat.le_trans (flatMap_len f n h _) (Nat.mul_le_mul_right n ?_)
      rw [List.length_take, rng_len]; omega
    have tk : ∀ k : Nat, (rng 0 p.toNat).take k = (rng 0 p.toNat).take (min k p.toNat) := fun k => by
      rcases Nat.le_total k p.toNat with h | h
      · rw [Nat.min_eq_left h]
      · rw [Nat.min_eq_right h, List.take_of_length_le (by rw [rng_len]; exact h), List.take_of_length_le (by rw [rng_len]; exact Nat.le_refl _)]
    have n2 : ∀ (f : PyData → List PyData) (n k : Nat), (∀ x, (f x).length ≤ n) → (((rng 0 p.toNat).take k).flatMap f).length ≤ 5 * n := fun f n k h => by
      rw [tk k]; exact n1 f n _ (by lia) h
    have n3 : ∀ (f : PyData → List PyData) (n : Nat), (∀ x, (f x).length ≤ n) → ((rng 0 p.toNat).flatMap f).length ≤ 5 * n := fun f n h => by
      have z := n2 f n p.toNat h
      rwa [List.take_of_length_le (by rw [rng_len]; exact Nat.le_refl _)] at z
    have hlen : ys₃.length ≤ sizeLine := by
      rw [hys₃, List.length_append, hys₂, List.length_append, hys]
      have z1 := n2 (fun a => (rng 0 p.toNat).flatMap fun b => (rng 0 p.toNat).flatMap fun c => [PyData.tuple [a, b, c]]) 25 i fun a => n3 _ 5 fun b => n3 (fun c => [PyData.tuple [a, b, c]]) 1 fun c => Nat.le_refl 1
      have z2 := n2 (fun b => (rng 0 p.toNat).flatMap fun c => [PyData.tuple [PyData.int ka, b, c]]) 5 j fun b => n3 (fun c => [PyData.tuple [PyData.int ka, b, c]]) 1 fun c => Nat.le_refl 1
      have z3 := n2 (fun c => [PyData.tuple [PyData.int ka, PyData.int kb, c]]) 1 j' fun c => Nat.le_refl 1
      exact sz _ (by lia)
    exact turn_emit (b := true) (z := .tuple [.int ka, .int kb, .int kc]) hs₃' C₃ tsts_nil (fun _ => ex_tuple (.cons (ex_var (h1 := by decide) (h2 := by decide) rfl (.inl ⟨by rfl, m₃, C₃.loc, ea⟩) (.int ka ta)) (.cons (ex_var (h1 := by decide) (h2 := by decide) rfl (.inl ⟨by rfl, m₃, C₃.loc, eb⟩) (.int kb tb)) (.cons (ex_var (h1 := by decide) (h2 := by decide) rfl nmc hvc) .nil))) rfl (show 3 ≤ sizeLine by decide)) hlen
  intro W₆ De tk₆ F₆ s₆ U₆ h0
  rw [every_out hp] at U₆
  obtain ⟨W₇, e7, F₇, ie₇, fz₇⟩ := U₆.freeze F₆ (F₅.le.none h0)
  have fz₅₇ : ∀ a o, W₅.F a = some o → W₇.F a = some o := fun a o e => fz₇ a o (s₆.so.fz a o e)
  have ip₇ := ip₅.mono fz₅₇
  have it₇ := it₅.mono fz₅₇
  have il₇ := il₅.mono fz₅₇
  have ir₇ := ir₅.mono fz₅₇
  have icP₇ := F₇.ic (c := L + 1) (by first | exact lo1 | exact lo2 | exact lo3 | exact lo4 | exact lo5 | exact lo6 | exact lo7 | exact lo8 | exact lo9) cp₅
  have icT₇ := F₇.ic (c := L + 3) (by first | exact lo1 | exact lo2 | exact lo3 | exact lo4 | exact lo5 | exact lo6 | exact lo7 | exact lo8 | exact lo9) ct₅
  rw [← e7]
  -- nothing
  refine st_assignC (c := L + 7) (P := V (.list ((nothingOf T p).map TI))) F₇ rfl ?_ rfl (by rfl) (by rfl) (by first | exact lo1 | exact lo2 | exact lo3 | exact lo4 | exact lo5 | exact lo6 | exact lo7 | exact lo8 | exact lo9) (by with_unfolding_all rfl) fun W₈ W₉ vn tk₉ l₈ inn F₉ s₉ hF₉ => ?_
  · refine EvN.frz (EvN.cast (evn_comp1 (xs := (everyOf p).map TI) (onTB (zeroB T p)) id (fun _ => rfl) (by with_unfolding_all rfl) rfl (by decide) (fun C => ⟨[], .nil (fun _ _ => rfl) (fun _ => rfl), .loc (by rfl) (by rfl) (by simp)⟩)
      ((ex_var (h1 := by decide) (h2 := by decide) rfl (F₇.nm (by rfl) upd_at) ie₇).srcV hA.hh) (sz _ (by rw [List.length_map]; have := everyOf_len hp; lia)) fun y hy W' C v l iv nm => ?_) ?_)
    · obtain ⟨r, hr, rfl⟩ := List.mem_map.mp hy
      refine ⟨?_, fun _ => ex_var (h1 := by decide) (h2 := by decide) rfl nm iv⟩
      rw [onTB_TI]
      exact tsts_one (tst_zero H N hA rfl rfl rfl (by rfl) (by rfl) rfl rfl (ex_var (h1 := by decide) (h2 := by decide) rfl (nm_free (c := L + 3) (IsCell.le l icT₇) (.inl (by rfl)) (by rfl)) (it₇.le l)) (ex_var (h1 := by decide) (h2 := by decide) rfl nm iv) (ex_var (h1 := by decide) (h2 := by decide) rfl (nm_free (c := L + 1) (IsCell.le l icP₇) (.inl (by rfl)) (by rfl)) (ip₇.le l)) hp hT hT3 (everyOf_bd r hr))
    · rw [filter_TI, List.map_id]; rfl
  refine k W₉ _ _ tk₉ F₉ ?_
  have fz : ∀ a o, W₇.F a = some o → W₉.F a = some o := fun a o e => s₉.so.fz a o (l₈.fz a o e)
  exact ⟨⟨vp, (upd_ne (ad_ne (by decide))).trans cp₅, ip₇.mono fz⟩, ⟨vt, (upd_ne (ad_ne (by decide))).trans ct₅, it₇.mono fz⟩, ⟨vl, (upd_ne (ad_ne (by decide))).trans ((upd_ne (ad_ne (by decide))).trans upd_at), il₇.mono fz⟩,
    ⟨vr, (upd_ne (ad_ne (by decide))).trans upd_at, ir₇.mono fz⟩, ⟨_, upd_at, ie₇.mono fz⟩, ⟨vn, upd_at, inn.mono s₉.so.fz⟩⟩
end
end Mine
namespace Mine
theorem atKey_cons {x : List Int × Addr × Value} {xs : List (List Int × Addr × Value)} {k : List Int} : atKey (x :: xs) k = if x.1 = k then some x.2 else atKey xs k := by
  unfold atKey
  rw [List.find?_cons]
  by_cases h : x.1 = k
  · simp [h]
  · simp [h]
theorem atKey_put {k : List Int} {v : Value} {k' : List Int} : ∀ xs : List (List Int × Addr × Value), (atKey (xs.map (putAt k v)) k').map (·.2) = if k' = k then (atKey xs k').map (fun _ => v) else (atKey xs k').map (·.2)
  | [] => by unfold atKey; simp
  | x :: xs => by
    rw [List.map_cons, atKey_cons, atKey_cons]
    have e : (putAt k v x).1 = x.1 := by unfold putAt; split <;> rfl
    rw [e]
    by_cases h : x.1 = k'
    · rw [if_pos h, if_pos h]
      by_cases h2 : k' = k
      · rw [if_pos h2]; unfold putAt; rw [if_pos (h.trans h2)]; rfl
      · rw [if_neg h2]; unfold putAt; rw [if_neg (fun q => h2 (h.symm.trans q))]
    · rw [if_neg h, if_neg h]
      exact atKey_put xs
theorem atKey_app {k k' : List Int} {a : Addr} {v : Value} : ∀ xs : List (List Int × Addr × Value), atKey (xs ++ [(k, a, v)]) k' = (match atKey xs k' with | some p => some p | none => if k = k' then some (a, v) else none)
  | [] => by
    rw [List.nil_append, atKey_cons]; rfl
  | x :: xs => by
    rw [List.cons_append, atKey_cons, atKey_cons]
    by_cases h : x.1 = k'
    · rw [if_pos h, if_pos h]
    · rw [if_neg h, if_neg h]; exact atKey_app xs
theorem atKey_stored {xs : List (List Int × Addr × Value)} {k k' : List Int} {a : Addr} {v : Value} : (atKey (storedH xs k a v) k').map (·.2) = if k' = k then some v else (atKey xs k').map (·.2) := by
  cases h : atKey xs k with
  | none =>
    rw [storedH_new h, atKey_app]
    by_cases h2 : k' = k
    · subst h2; rw [h, if_pos rfl]; simp
    · rw [if_neg h2]
      cases h3 : atKey xs k' with
      | none => simp [Ne.symm h2]
      | some p => rfl
  | some p =>
    rw [storedH_old h, atKey_put]
    by_cases h2 : k' = k
    · subst h2; rw [if_pos rfl, if_pos rfl, h]; rfl
    · rw [if_neg h2, if_neg h2]
theorem storedH_len {xs : List (List Int × Addr × Value)} {k : List Int} {a : Addr} {v : Value} : (storedH xs k a v).length ≤ xs.length + 1 := by
  unfold storedH; split <;> simp

section
variable {g : Heap} {prog : Program} {w : World} {A : Around} {B B' W W' : Wld g} {env : Env} {own : List Addr} {m : Str → Option Value} {cm : Addr → Option Value} {s : Shared} {rest : List Stmt} {Q : Flow → Shared → Prop} {E : Value → Shared → Prop}

/- a dict from tuples of numbers to numbers -/
noncomputable def DT (prog : Program) (w : World) (W : Wld g) (d : Addr) (n : Nat) (f : List Int → Option Int) : Prop :=
  (d == sysModules) = false ∧ W.F d = none ∧ ∃ o es ep, ∃ xs : List (List Int × Addr × Value), W.h.get? d = some o ∧ o.ExactDict ∧ o.data = .dict es ep ∧ es.toList = xs.map (entryOfKey (tupleKind (intKind prog w))) ∧ (xs.map (·.1)).Nodup ∧
    (∀ x ∈ xs, ∃ ok, W.F x.2.1 = some ok ∧ TupKeyObj (intKind prog w) x.1 ok) ∧ (∀ k, match f k with | none => (atKey xs k).map (·.2) = none | some c => ∃ t, (atKey xs k).map (·.2) = some (.int c t)) ∧ xs.length ≤ n
theorem DT.soft {d L : Addr} {n : Nat} {f : List Int → Option Int} (x : DT prog w W d n f) (s : Soft L W W') (h : d ≠ L) : DT prog w W' d n f := by
  obtain ⟨e0, e1, o, es, ep, xs, e2, e3, e4, e5, e6, e7, e8, e9⟩ := x
  exact ⟨e0, s.off d o e2 (.inr ⟨⟨_, _, e4⟩, h⟩) e1, o, es, ep, xs, s.kp d o e2 (.inr ⟨⟨_, _, e4⟩, h⟩), e3, e4, e5, e6, fun y hy => let ⟨ok, a, b⟩ := e7 y hy; ⟨ok, s.fz _ _ a, b⟩, e8, e9⟩
theorem DT.up {d : Addr} {n : Nat} {f : List Int → Option Int} (x : DT prog w W d n f) (l : W.Le W') : DT prog w W' d n f := by
  obtain ⟨e0, e1, o, es, ep, xs, e2, e3, e4, e5, e6, e7, e8, e9⟩ := x
  have mv : movable o := .inl fun vs q => by rw [e4] at q; cases q
  exact ⟨e0, l.off' e1 e2, o, es, ep, xs, l.mv e2 mv, e3, e4, e5, e6, fun y hy => let ⟨ok, a, b⟩ := e7 y hy; ⟨ok, l.fz _ _ a, b⟩, e8, e9⟩
theorem DT.hide {d D : Addr} {n : Nat} {f : List Int → Option Int} {U : Un W D} (x : DT prog w W d n f) : DT prog w (W.hide D U) d n f := by
  obtain ⟨e0, e1, o, es, ep, xs, e2, e3, e4, e5, e6, e7, e8, e9⟩ := x
  refine ⟨e0, e1, o, es, ep, xs, hide_get e2 (fun q => ?_), e3, e4, e5, e6, e7, e8, e9⟩
  subst q
  obtain ⟨o', e', ⟨vs, n', d'⟩, _⟩ := U
  rw [e2] at e'; cases e'; rw [e4] at d'; cases d'
theorem DT.ofH {d : Addr} {n : Nat} {f : List Int → Option Int} (x : DT prog w W d n f) : ∃ xs : List (List Int × Addr × Value), W.h.DictOfH (tupleKind (intKind prog w)) d xs ∧ (∀ x ∈ xs, ∃ ok, W.F x.2.1 = some ok ∧ TupKeyObj (intKind prog w) x.1 ok) ∧ (∀ k, match f k with | none => (atKey xs k).map (·.2) = none | some c => ∃ t, (atKey xs k).map (·.2) = some (.int c t)) ∧ xs.length ≤ n := by
  obtain ⟨e0, e1, o, es, ep, xs, e2, e3, e4, e5, e6, e7, e8, e9⟩ := x
  exact ⟨xs, ⟨o, es, ep, e2, e3, e4, e5, fun y hy => let ⟨ok, a, b⟩ := e7 y hy; b.key (W.inn _ _ a), e6⟩, e7, e8, e9⟩
theorem key_ints {a : Addr} {ks : List Int} (h : IsV W.F (.ref a) (TI ks)) : ∃ ok, W.F a = some ok ∧ TupKeyObj (intKind prog w) ks ok := by
  cases h with
  | @tuple a o vs n _ hF hc hd q =>
  refine ⟨o, hF, hc, vs, n, hd, ?_⟩
  have go : ∀ (l : List Value) (ns : List Int), IntsAre l ns → ItemsAre (intKind prog w) ns l := by
    intro l ns h
    induction h with
    | nil => exact .nil
    | cons n t _ ih => exact .cons (intKind_is prog w n t) ih
  exact go _ _ (IsVs.ints q)
theorem room1 (hu : A.units + 1 < cLine) : (tupleKind (intKind prog w)).room A.in1 := tupleKind_room_in1 hu

theorem wp_dget {d a : Addr} {n : Nat} {ks : List Int} {f : List Int → Option Int} {c : Int} {t : Tok} {Q : Value → Shared → Prop} {E : Value → Shared → Prop} (hu : A.units + 1 < cLine) (hs : s.heap = W.h) (x : DT prog w W d n f) (hk : IsV W.F (.ref a) (TI ks))
    (h : ∀ tk t', Q (.int ((f ks).getD c) t') { s with toks := tk }) : wpAny (model prog w) A (call (.builtin "dict.get") [.ref d, .ref a, .int c t]) Q E s := by
  obtain ⟨xs, hd, _, hv, _⟩ := x.ofH
  obtain ⟨ok, hok, tk⟩ := key_ints (prog := prog) (w := w) hk
  refine call_meetsIn PySem.F.slot_dict_get (show s.TypeIs (.ref d) "dict" from (show s.heap.DictOfH _ d xs by rw [hs]; exact hd).typeIs) PySem.F.entry_dict_get (PySem.F.args_dict_get_3 _ _ _) (meetsH_dict_get_default (tupleKind (intKind prog w)) d a x.1 (.int c t))
    ⟨room1 hu, ks, xs, by rw [hs]; exact tk.key (W.inn _ _ hok), by rw [hs]; exact hd, ?_⟩
  have z := hv ks
  cases hf : f ks with
  | none =>
    rw [hf] at z
    dsimp only at z
    rw [z]
    have := h (s.toks + (tupleKind (intKind prog w)).draws ks) t
    rw [hf] at this
    exact this
  | some c' =>
    rw [hf] at z
    obtain ⟨t', z⟩ := z
    rw [z]
    have := h (s.toks + (tupleKind (intKind prog w)).draws ks) t'
    rw [hf] at this
    exact this
theorem wp_ditem {d a : Addr} {n : Nat} {ks : List Int} {f : List Int → Option Int} {c : Int} {Q : Value → Shared → Prop} {E : Value → Shared → Prop} (hu : A.units + 1 < cLine) (hs : s.heap = W.h) (x : DT prog w W d n f) (hk : IsV W.F (.ref a) (TI ks)) (hf : f ks = some c)
    (h : ∀ tk t', Q (.int c t') { s with toks := tk }) : wpAny (model prog w) A (getItem (.ref d) (.ref a)) Q E s := by
  obtain ⟨xs, hd, _, hv, _⟩ := x.ofH
  obtain ⟨ok, hok, tk⟩ := key_ints (prog := prog) (w := w) hk
  have z := hv ks
  rw [hf] at z
  obtain ⟨t', z⟩ := z
  obtain ⟨p, hp, e⟩ := Option.map_eq_some_iff.mp z
  refine wpAny_getItem_heap (knd := tupleKind (intKind prog w)) (room1 hu) (by rw [hs]; exact tk.key (W.inn _ _ hok)) (by rw [hs]; exact hd) hp ?_
  rw [e]
  exact h _ t'
theorem wp_dset {d a : Addr} {n : Nat} {ks : List Int} {f : List Int → Option Int} {c : Int} {t : Tok} {Q : Unit → Shared → Prop} {E : Value → Shared → Prop} (hu : A.units + 1 < cLine) (hs : s.heap = W.h) (x : DT prog w W d n f) (hk : IsV W.F (.ref a) (TI ks)) (hn : n < 1000)
    (h : ∀ (W' : Wld g) tk, DT prog w W' d (n + 1) (fun k => if k = ks then some c else f k) → W'.F = W.F → (∀ b o, b ≠ d → W.h.get? b = some o → W'.h.get? b = some o) → Q () { s with heap := W'.h, toks := tk }) :
    wpAny (model prog w) A (setItem (.ref d) (.ref a) (.int c t)) Q E s := by
  obtain ⟨xs, hd, hks, hv, hl⟩ := x.ofH
  obtain ⟨ok, hok, tk⟩ := key_ints (prog := prog) (w := w) hk
  refine wpAny_setItem_heap (knd := tupleKind (intKind prog w)) (xs := xs) (room1 hu) (by rw [hs]; exact tk.key (W.inn _ _ hok)) (by rw [hs]; exact hd) (fun h' hd' sb => ?_) (Nat.le_trans (show xs.length ≤ 1000 by lia) (by decide))
  obtain ⟨o, es, ep, eo, ex, ed, _⟩ := id hd
  have kp : ∀ b o, b ≠ d → W.h.get? b = some o → h'.get? b = some o := fun b o hb e => sb.extBut b o hb (by rw [hs]; exact e)
  obtain ⟨o', es', ep', eo', ex', ed', ees', _, nd'⟩ := hd'
  refine h (W.set d h' eo (.inl fun vs q => by rw [ed] at q; cases q) x.2.1 kp) _ ⟨x.1, x.2.1, o', es', ep', storedH xs ks a (.int c t), eo', ex', ed', ees', nd', fun y hy => ?_, fun k => ?_, Nat.le_trans storedH_len (by lia)⟩ rfl kp
  · rcases mem_storedH hy with ⟨z, hz, e1, e2⟩ | ⟨e1, e2⟩
    · rw [e1, e2]; exact hks z hz
    · rw [e1, e2]; exact ⟨ok, hok, tk⟩
  · rw [atKey_stored]
    by_cases hk' : k = ks
    · simp only [if_pos hk']; exact ⟨t, rfl⟩
    · simp only [if_neg hk']; exact hv k
theorem FS.dict (F : FS B W env own m cm) {d : Addr} {n : Nat} {f : List Int → Option Int} (x : DT prog w W d n f) (hL : d ≠ env.locals) (h0 : B.h.get? d = none) (hF : W'.F = W.F) (kp : ∀ b o, b ≠ d → W.h.get? b = some o → W'.h.get? b = some o) : FS B W' env own m cm ∧ Hard W W' := by
  obtain ⟨_, _, o, es, ep, xs, e, _, d', _⟩ := x
  exact ⟨F.but e (.inr hL) (fun v q => by rw [d'] at q; cases q) h0 hF kp, Hard.but e (by rintro ⟨vs, q⟩; rw [d'] at q; cases q) hF kp⟩
theorem UL.dict {D d : Addr} {xs : List PyData} {n : Nat} {f : List Int → Option Int} (U : UL W D xs) (x : DT prog w W d n f) (hF : W'.F = W.F) (kp : ∀ b o, b ≠ d → W.h.get? b = some o → W'.h.get? b = some o) : UL W' D xs := by
  obtain ⟨vs, c, e, fD, q⟩ := U
  obtain ⟨_, _, o, es, ep, ys, e', _, d', _⟩ := x
  have hne : D ≠ d := fun q => by subst q; rw [e] at e'; cases e'; cases d'
  exact ⟨vs, c, kp D _ hne e, by rw [hF]; exact fD, by rw [hF]; exact q⟩
theorem Hard.of_hide {D : Addr} {U : Un W D} (l : (W.hide D U).Le W') : Hard W W' := by
  obtain ⟨o', e', ⟨vs, n, d'⟩, f'⟩ := id U
  have hne : ∀ b o, W.h.get? b = some o → isFld o → b ≠ D := fun b o e m q => by
    subst q; rw [e] at e'; cases e'
    obtain ⟨_, vs', d2⟩ := m; rw [d'] at d2; cases d2
  exact ⟨l.fz, fun b o e m => l.mv (hide_get e (hne b o e m)) m.1, fun b o e m f => l.off' (W := W.hide D U) f (hide_get e (hne b o e m))⟩
end
end Mine
namespace Mine
noncomputable def mstep (T : List (List Int)) (p : Int) (made : List (List Int)) (v : List Int) : List (List Int) :=
  if (bisL made (madeOf T v p) (made.length + 1) 0 made.length == (made.length : Int) || made.getD (bisL made (madeOf T v p) (made.length + 1) 0 made.length).toNat [] != madeOf T v p) = true then insL made (madeOf T v p) else made
noncomputable def madesOf (T : List (List Int)) (p : Int) (vs : List (List Int)) : List (List Int) := vs.foldl (mstep T p) []
noncomputable def cnt (T : List (List Int)) (p : Int) (vs : List (List Int)) (t : List Int) : Nat := (vs.filter fun v => decide (madeOf T v p = t)).length
noncomputable def cntF (T : List (List Int)) (p : Int) (vs : List (List Int)) (t : List Int) : Option Int := if cnt T p vs t = 0 then none else some (cnt T p vs t : Int)
theorem cntF_snoc (T : List (List Int)) (p : Int) (vs : List (List Int)) (v : List Int) : cntF T p (vs ++ [v]) = fun t => if t = madeOf T v p then some ((cntF T p vs (madeOf T v p)).getD 0 + 1) else cntF T p vs t := by
  funext t
  have e : cnt T p (vs ++ [v]) t = cnt T p vs t + (if madeOf T v p = t then 1 else 0) := by
    unfold cnt
    rw [List.filter_append, List.length_append]
    congr 1
    by_cases h : madeOf T v p = t
    · rw [if_pos h, List.filter_cons, if_pos (decide_eq_true h)]; rfl
    · rw [if_neg h, List.filter_cons, if_neg (by rw [decide_eq_false h]; exact Bool.false_ne_true)]; rfl
  unfold cntF
  rw [e]
  by_cases h : t = madeOf T v p
  · subst h
    rw [if_pos rfl, if_neg (by lia), if_pos rfl]
    by_cases h2 : cnt T p vs (madeOf T v p) = 0
    · rw [if_pos h2, h2]; rfl
    · rw [if_neg h2]; rfl
  · rw [if_neg (Ne.symm h), if_neg h]; rfl
theorem mstep_len (T : List (List Int)) (p : Int) (made : List (List Int)) (v : List Int) : (mstep T p made v).length ≤ made.length + 1 := by
  unfold mstep
  split
  · unfold insL
    rw [List.length_append, List.length_take, List.length_cons, List.length_drop]; omega
  · lia
theorem madesOf_len (T : List (List Int)) (p : Int) (vs : List (List Int)) : (madesOf T p vs).length ≤ vs.length := by
  have key : ∀ (vs made : List (List Int)), (vs.foldl (mstep T p) made).length ≤ made.length + vs.length := by
    intro vs
    induction vs with
    | nil => intro made; exact Nat.le_refl _
    | cons v vs ih =>
      intro made
      rw [List.foldl_cons, List.length_cons]
      have := ih (mstep T p made v)
      have := mstep_len T p made v
      lia
  have := key vs []
  simpa [madesOf] using this
section
variable {g : Heap} {prog : Program} {w : World} {A : Around} {B B' W W' : Wld g} {env : Env} {own : List Addr} {m : Str → Option Value} {cm : Addr → Option Value} {s : Shared} {rest : List Stmt} {Q : Flow → Shared → Prop} {E : Value → Shared → Prop}
variable {mg mb : Str → Option Value} {L fa : Addr} {cd : Value}

noncomputable def LoopI (prog : Program) (w : World) (B : Wld g) (L : Addr) (p : Int) (T : List (List Int)) (i : Nat) (W : Wld g) (m : Str → Option Value) (cm : Addr → Option Value) : Prop :=
  LS L p T W m cm ∧ ∃ D d, B.h.get? D = none ∧ B.h.get? d = none ∧ d ≠ L ∧ m "made" = some (.ref D) ∧ cm (L + 8) = some (.ref d) ∧ UL W D ((madesOf T p ((everyOf p).take i)).map TI) ∧ DT prog w W d i (cntF T p ((everyOf p).take i))

theorem pl_TI (r : List Int) : pl 1 (TI r) = true := by
  show ((r.map PyData.int).all (pl 0)) = true
  rw [List.all_eq_true]
  intro x hx
  obtain ⟨y, _, rfl⟩ := List.mem_map.mp hx
  rfl
theorem eqv_TI (a b : List Int) : PyData.eqv (TI a) (TI b) = decide (a = b) := by
  have iff1 := pl_eqv 1 (TI a) (TI b) 1 (pl_TI a) (pl_TI b)
  by_cases h : a = b
  · subst h
    rw [decide_eq_true rfl]
    exact iff1.mpr rfl
  · rw [decide_eq_false h]
    cases q : PyData.eqv (TI a) (TI b) with
    | false => rfl
    | true =>
      have := iff1.mp q
      have e : (a.map PyData.int).map toI = (b.map PyData.int).map toI := by rw [PyData.tuple.inj this]
      rw [toI_map, toI_map] at e
      exact absurd e h

theorem law_B {p : Int} {T : List (List Int)} (H : Gd g mg mb) (N : LawF g mg) (hA : Ok 20 A) (hs : s.heap = W.h) (F : FS B W (lawEnv L fa cd) (lawOwn L) m cm) (hp : PrimeOk p) (hT : Bd p 3 T) (hT3 : T.length ≤ 3) (I : LS L p T W m cm)
    (k : ∀ (W' : Wld g) m' cm' tk, FS B W' (lawEnv L fa cd) (lawOwn L) m' cm' → LoopI prog w B L p T (everyOf p).length W' m' cm' → wpAny (model prog w) A (execs (lawB 10) (lawEnv L fa cd)) Q E { s with heap := W'.h, toks := tk }) :
    wpAny (model prog w) A (execs (lawB 8) (lawEnv L fa cd)) Q E s := by
  refine wp_norm hs ?_
  have hpp := hp.pos
  have sz : ∀ n, n ≤ 1000 → n ≤ sizeLine := fun n h => Nat.le_trans h (by decide)
  have hel := everyOf_len hp
  -- made, often = ([], {})
  refine st_pair (cx := none) (cy := some (L + 8)) (R₁ := fun W' => NewL W' []) (R₂ := fun W0 W1 v => ∃ d, v = .ref d ∧ W0.h.get? d = none ∧ DT prog w W1 d 0 (fun _ => none)) hA.hh rfl F rfl (EvN.ge (ex_list .nil rfl (by decide))) ?_ (by rfl) (.loc rfl (by rfl) (by rfl)) (.cel (L + 8) rfl (by rfl) (by rfl) (by first | exact lo1 | exact lo2 | exact lo3 | exact lo4 | exact lo5 | exact lo6 | exact lo7 | exact lo8 | exact lo9)) (by with_unfolding_all rfl) (by with_unfolding_all rfl) ?_
  · intro W' lw s' hs' Q' E' k'
    refine wpAny_Dict_empty ?_
    obtain ⟨W₁, e1, l1, eF, e2, h0⟩ := Wld.push_new hs' { cls := .type "dict", data := .dict #[] } rfl
    have z := k' W₁ s'.toks (.ref s'.heap.objs.size) l1 ⟨_, rfl, h0, ?_⟩
    · rw [e1] at z; exact z
    · refine ⟨?_, by rw [eF]; exact Wld.F_none h0, _, _, _, [], e2, ⟨rfl, rfl, rfl⟩, rfl, rfl, List.nodup_nil, (fun _ h => nomatch h), (fun _ => rfl), Nat.le_refl _⟩
      obtain ⟨ps, e, _⟩ := W'.tab.1
      rw [← hs'] at e
      have this : (30 : Nat) < s'.heap.objs.size := Heap.lt_size e
      exact beq_eq_false_iff_ne.mpr (show s'.heap.objs.size ≠ 1 by lia)
  intro W₁ W₂ W₃ W₄ a b tk m₁ cm₁ m₂ cm₂ l₁ r₁ l₂ r₂ s₃ s₄ F₄ hm₁ hc₁ nm₁ F₃ hm₂ hc₂ nm₂
  obtain ⟨D, vs, n, rfl, eD, fD, qD, h0D⟩ := r₁
  obtain ⟨d, rfl, h0d, xd⟩ := r₂
  have hdL : d ≠ L := fun q => by
    obtain ⟨oL, eL, _, _⟩ := ns_dct (F.up l₁).loc
    have eL' : W₁.h.get? L = some oL := eL
    rw [← q, h0d] at eL'; cases eL'
  have fz₄ : ∀ x o, W.F x = some o → W₄.F x = some o := fun x o e => s₄.so.fz x o (s₃.so.fz x o (l₂.fz x o (l₁.fz x o e)))
  have U₄ : UL W₄ D ((madesOf T p ((everyOf p).take 0)).map TI) := (((UL.up (W := W₁) (xs := []) ⟨vs, n, eD, fD, qD⟩ l₂).soft s₃.so).soft s₄.so)
  have x₄ : DT prog w W₄ d 0 (cntF T p ((everyOf p).take 0)) := (xd.soft s₃.so hdL).soft s₄.so hdL
  have mm : m₂ "made" = some (.ref D) := (hm₂ _ (by decide)).trans (nm₁.inMap F₃ (by rfl))
  have cmo : cm₂ (L + 8) = some (.ref d) := IsCell.eq (F₄.cl (L + 8) (by first | exact lo1 | exact lo2 | exact lo3 | exact lo4 | exact lo5 | exact lo6 | exact lo7 | exact lo8 | exact lo9)).1 (nm₂.cell (c := L + 8) (by rfl) (by rfl))
  have me : m₂ "every" = m "every" := (hm₂ _ (by decide)).trans (hm₁ _ (by decide))
  have cc : ∀ j, j ≠ 8 → cm₂ (L + j) = cm (L + j) := fun j hj => (hc₂ _ (fun q => hj (Nat.add_left_cancel (Option.some.inj q)).symm)).trans (hc₁ _ (by simp))
  have I₄ : LS L p T W₄ m₂ cm₂ := I.keep fz₄ me (cc 1 (by decide)) (cc 3 (by decide)) (cc 4 (by decide)) (cc 5 (by decide)) (cc 7 (by decide))
  obtain ⟨ve, eve, ive⟩ := I₄.ev
  -- for row in every
  refine st_for (hfold := by intro _; rfl) (c? := some (L + 6)) (xs := (everyOf p).map TI) (fun i W m cm => LoopI prog w B L p T i W m cm) F₄ rfl rfl (.cel (L + 6) rfl (by rfl) (by rfl) (by first | exact lo1 | exact lo2 | exact lo3 | exact lo4 | exact lo5 | exact lo6 | exact lo7 | exact lo8 | exact lo9)) ((ex_var (h1 := by decide) (h2 := by decide) rfl (F₄.nm (by rfl) eve) ive).mono fun W' v l p => srcF_list hA.hh p) ?_ ?_ ?_ ?_
  · intro W' l
    exact ⟨I₄.keep l.fz rfl rfl rfl rfl rfl rfl, D, d, F.le.none h0D, (F.up l₁).le.none h0d, hdL, mm, cmo, U₄.up l, x₄.up l⟩
  · rintro i V₁ V₂ ma ca mb' cb so hm hc ⟨LSi, D', d', b0, b1, b2, b3, b4, u, x⟩
    have c6 : ∀ j, j ≠ 6 → cb (L + j) = ca (L + j) := fun j hj => hc _ (fun q => hj (Nat.add_left_cancel (Option.some.inj q)).symm)
    exact ⟨LSi.keep so.fz (hm _ (by decide)) (c6 1 (by decide)) (c6 3 (by decide)) (c6 4 (by decide)) (c6 5 (by decide)) (c6 7 (by decide)), D', d', b0, b1, b2, (hm _ (by decide)).trans b3, (c6 8 (by decide)).trans b4, u.soft so, x.soft so b2⟩
  · rintro i y vy V₀ m₀ cm₀ tk₀ E₀ Q₀ hy iy FV ⟨I₀, D', d', b0, b1, b2, b3, b4, u, x⟩ nmy hQ
    rw [List.getElem?_map] at hy
    obtain ⟨r, hr, rfl⟩ := Option.map_eq_some_iff.mp hy
    have hil : i < (everyOf p).length := by
      rcases Nat.lt_or_ge i (everyOf p).length with h | h
      · exact h
      · rw [List.getElem?_eq_none h] at hr; cases hr
    have hrm := everyOf_bd r (List.mem_of_getElem? hr)
    have etake : (everyOf p).take (i + 1) = (everyOf p).take i ++ [r] := by rw [List.take_add_one, hr]; rfl
    have hml : (madesOf T p ((everyOf p).take i)).length ≤ 125 := by
      have := madesOf_len T p ((everyOf p).take i)
      rw [List.length_take] at this; lia
    have emade : madesOf T p ((everyOf p).take (i + 1)) = mstep T p (madesOf T p ((everyOf p).take i)) r := by
      rw [etake]; unfold madesOf; rw [List.foldl_append]; rfl
    have ecnt := cntF_snoc T p ((everyOf p).take i) r
    rw [← etake] at ecnt
    generalize hmd : madesOf T p ((everyOf p).take i) = made at u emade hml
    generalize hcf : cntF T p ((everyOf p).take i) = cf at x ecnt
    obtain ⟨vp, cp, ip⟩ := I₀.pr
    obtain ⟨vt, ct, it⟩ := I₀.tb
    generalize hto : madeOf T r p = told at emade ecnt
    -- told = _law_made(table, row, prime)
    refine st_assign (P := V (TI told)) FV rfl ?_ (by rfl) (by rfl) (by with_unfolding_all rfl) fun W₅ W₆ v₆ tk₆ l₅ i₆ F₆ s₆ hF₆ => ?_
    · rw [← hto]
      refine ex_callF3 (P₁ := V (.list (T.map LI))) (P₂ := V (TI r)) (P₃ := V (.int p)) (ex_global (hd := by decide) rfl rfl (by rfl) H.G N.mM) N.fM.fn rfl (ex_var (h1 := by decide) (h2 := by decide) rfl (FV.nmC (by rfl) (by rfl) (by first | exact lo1 | exact lo2 | exact lo3 | exact lo4 | exact lo5 | exact lo6 | exact lo7 | exact lo8 | exact lo9) ct) it) (ex_var (h1 := by decide) (h2 := by decide) rfl nmy iy) (ex_var (h1 := by decide) (h2 := by decide) rfl (FV.nmC (by rfl) (by rfl) (by first | exact lo1 | exact lo2 | exact lo3 | exact lo4 | exact lo5 | exact lo6 | exact lo7 | exact lo8 | exact lo9) cp) ip) fun V₁ V₂ V₃ a b c k₁ k₂ k₃ p₁ p₂ p₃ => ?_
      exact made_call H (hA.le (by decide)) N.fM ((p₁.le k₂).le k₃) (p₂.le k₃) p₃ (by lia) (fun r hr => (hT r hr).1) hrm.1 (fun r hr x hx => by have := (hT r hr).2 x hx; lia) (fun x hx => by have := hrm.2 x hx; lia) (by lia) N.nt N.ns N.ng
    have i₆' := i₆.mono s₆.so.fz
    have u₆ := (u.up l₅).soft s₆.so
    have x₆ := (x.up l₅).soft s₆.so b2
    obtain ⟨ta, rfl⟩ : ∃ ta, v₆ = .ref ta := by cases i₆' with | tuple => exact ⟨_, rfl⟩
    have hun : A.units + 1 < cLine := by have := hA.un; lia
    have mm₆ : upd m₀ "told" (.ref ta) "made" = some (.ref D') := (upd_ne (by decide)).trans b3
    -- often[told] = often.get(told, 0) + 1
    refine wpAny_execs_cons (wpAny_Assign_Subscript ?_ (by with_unfolding_all rfl))
    have eget : Ex prog w A (lawEnv L fa cd) (.Call (.Attribute (.Name "often" ⟨132, 22, 132, 27⟩) "get" ⟨132, 22, 132, 31⟩) [.Name "told" ⟨132, 32, 132, 36⟩, .Constant (.int 0) 0 ⟨132, 38, 132, 39⟩] [] ⟨132, 22, 132, 40⟩) W₆ (V (.int ((cf told).getD 0))) := by
      intro W' l s' hs' Q' E' k'
      refine wpAny_Call_method2_late (by rfl) (by rfl) (by rfl) ((ex_val (h1 := by decide) (h2 := by decide) (P := fun _ v => v = .ref d') rfl (F₆.nmC (by rfl) (by rfl) (by first | exact lo1 | exact lo2 | exact lo3 | exact lo4 | exact lo5 | exact lo6 | exact lo7 | exact lo8 | exact lo9) b4) fun _ _ => rfl : Ex prog w A _ _ W₆ _) W' l s' hs' _ _ fun V₁ tk₁ v l₁ e => ?_)
      subst e
      obtain ⟨xs, hd, _, _, _⟩ := (x₆.up (l.trans l₁)).ofH
      refine ⟨"dict", "dict.get", PySem.F.plainAttrs_dict, PySem.F.slot_dict_get, PySem.F.type_dict_get, hd.typeIs, dictOfH_noDict hd, ?_⟩
      refine callWith_builtin rfl (evalArgs_plain (spliced_cons ((ex_val (h1 := by decide) (h2 := by decide) (P := fun _ v => v = .ref ta) rfl (F₆.nm (by rfl) upd_at) fun _ _ => rfl : Ex prog w A _ _ W₆ _) V₁ (l.trans l₁) _ rfl _ _ fun V₂ tk₂ v l₂ e => spliced_cons ((ex_int : Ex prog w A _ _ V₂ _) V₂ (.refl _) _ rfl _ _ fun V₃ tk₃ v' l₃ i3 => spliced_nil ?_))))
      subst e
      obtain ⟨t3, rfl⟩ := IsV.intI i3
      refine wp_dget (W := V₃) hun rfl (x₆.up (((l.trans l₁).trans l₂).trans l₃)) (i₆'.le (((l.trans l₁).trans l₂).trans l₃)) fun tk t' => ?_
      exact k' V₃ tk _ ((l₁.trans l₂).trans l₃) (.int _ _)
    refine (ex_binop_int (a := (cf told).getD 0) (b := 1) (c := (cf told).getD 0 + 1) eget ex_int (fun t u s Q E nl h => P.add_int h) H.nl : Ex prog w A (lawEnv L fa cd) _ W₆ _) W₆ (.refl _) _ rfl _ _ fun W₇ tk₇ v₇ l₇ i₇ => ?_
    refine (ex_val (h1 := by decide) (h2 := by decide) (P := fun _ v => v = .ref d') rfl ((F₆.up l₇).nmC (by rfl) (by rfl) (by first | exact lo1 | exact lo2 | exact lo3 | exact lo4 | exact lo5 | exact lo6 | exact lo7 | exact lo8 | exact lo9) b4) fun _ _ => rfl : Ex prog w A (lawEnv L fa cd) _ W₇ _) W₇ (.refl _) _ rfl _ _ fun W₈ tk₈ v₈ l₈ e₈ => ?_
    subst e₈
    refine (ex_val (h1 := by decide) (h2 := by decide) (P := fun _ v => v = .ref ta) rfl ((F₆.up (l₇.trans l₈)).nm (by rfl) upd_at) fun _ _ => rfl : Ex prog w A (lawEnv L fa cd) _ W₈ _) W₈ (.refl _) _ rfl _ _ fun W₉ tk₉ v₉ l₉ e₉ => ?_
    subst e₉
    obtain ⟨t7, rfl⟩ := IsV.intI i₇
    have l₆₉ := (l₇.trans l₈).trans l₉
    have x₉ := x₆.up l₆₉
    refine wp_dset (W := W₉) hun rfl x₉ (i₆'.le l₆₉) (by lia) fun W₁₀ tk₁₀ x₁₀ hF₁₀ kp₁₀ => ?_
    rw [← ecnt] at x₁₀
    obtain ⟨F₁₀, ha₁₀⟩ := (F₆.up l₆₉).dict x₉ b2 b1 hF₁₀ kp₁₀
    have u₁₀ := (u₆.up l₆₉).dict x₉ hF₁₀ kp₁₀
    have it₁₀ : IsV W₁₀.F (.ref ta) (TI told) := by rw [hF₁₀]; exact i₆'.le l₆₉
    have fz₁₀ : ∀ a o, V₀.F a = some o → W₁₀.F a = some o := fun a o e => by rw [hF₁₀]; exact l₆₉.fz a o (s₆.so.fz a o (l₅.fz a o e))
    have ha0 : Hard V₀ W₁₀ := (((Hard.of_le l₅).trans s₆.ha).trans (.of_le l₆₉)).trans ha₁₀
    generalize hpl : bisL made told (made.length + 1) 0 made.length = pl at emade
    have hplb : 0 ≤ pl ∧ pl ≤ made.length := by rw [← hpl]; exact bisL_bd made told _ 0 _ (by decide) (by lia)
    -- place = bisect_left(made, told)
    refine st_assign (P := V (.int pl)) F₁₀ rfl ?_ (by rfl) (by rfl) (by with_unfolding_all rfl) fun W₁₁ W₁₂ v₁₂ tk₁₂ l₁₁ i₁₂ F₁₂ s₁₂ hF₁₂ => ?_
    · rw [← hpl]
      refine ex_callF2 (P₁ := fun _ v => v = .ref D') (P₂ := fun _ v => v = .ref ta) (ex_global (hd := by decide) rfl rfl (by rfl) H.G N.mb) N.fb.fn rfl (ex_val (h1 := by decide) (h2 := by decide) rfl (F₁₀.nm (by rfl) mm₆) fun _ _ => rfl) (ex_val (h1 := by decide) (h2 := by decide) rfl (F₁₀.nm (by rfl) upd_at) fun _ _ => rfl) fun V₁ V₂ a b k₁ k₂ e₁ e₂ => ?_
      subst e₁ e₂
      exact bis_call H (hA.le (by decide)) N.fb (N.bb2 _ _) (u₁₀.up (k₁.trans k₂)).sl (it₁₀.le (k₁.trans k₂)) (by lia) N.nl
    obtain ⟨t12, rfl⟩ := IsV.intI i₁₂
    have u₁₂ := (u₁₀.up l₁₁).soft s₁₂.so
    have x₁₂ := (x₁₀.up l₁₁).soft s₁₂.so b2
    have it₁₂ := (it₁₀.le l₁₁).mono s₁₂.so.fz
    have fz₁₂ : ∀ a o, V₀.F a = some o → W₁₂.F a = some o := fun a o e => s₁₂.so.fz a o (l₁₁.fz a o (fz₁₀ a o e))
    have mm₁₂ : upd (upd m₀ "told" (.ref ta)) "place" (.int pl t12) "made" = some (.ref D') := (upd_ne (by decide)).trans mm₆
    have mt₁₂ : upd (upd m₀ "told" (.ref ta)) "place" (.int pl t12) "told" = some (.ref ta) := (upd_ne (by decide)).trans upd_at
    have I₁₂ : LS L p T W₁₂ (upd (upd m₀ "told" (.ref ta)) "place" (.int pl t12)) cm₀ := I₀.keep fz₁₂ ((upd_ne (by decide)).trans (upd_ne (by decide))) rfl rfl rfl rfl rfl
    -- if place == len(made) or made[place] != told
    refine st_if (b := (pl == (made.length : Int)) || (made.getD pl.toNat [] != told)) rfl (tst_or2 (tst_cmp_int (hm := by with_unfolding_all rfl) (a := pl) (b := made.length) (ex_var (h1 := by decide) (h2 := by decide) rfl (F₁₂.nm (by rfl) upd_at) (.int pl t12)) ?_ fun t u s Q E h => wpAny_eq_int h) fun hne V₁ k₁ => ?_) ?_ ?_
    · refine (ex_call1 (f := .builtin "len") (P₁ := SL (made.map TI)) (P := V (.int (made.map TI).length)) (H.builtin (hd := by decide) rfl rfl rfl (by rfl) N.nl (by decide) (by decide +kernel)) rfl rfl (ex_val (h1 := by decide) (h2 := by decide) rfl (F₁₂.nm (by rfl) mm₁₂) fun W' l => (u₁₂.up l).sl) fun W₁ a l₁ p₁ => ev_len p₁ ?_).mono fun W' v l p => ?_
      · rw [List.length_map]; omega
      · rw [List.length_map] at p; exact p
    · have hlt : pl < made.length := by
        have := beq_eq_false_iff_ne.mp hne
        lia
      have hget : (made.map TI)[pl.toNat]? = some (TI (made.getD pl.toNat [])) := by
        rw [List.getElem?_map, List.getD_eq_getElem?_getD, List.getElem?_eq_getElem (by omega)]; rfl
      have e : (made.getD pl.toNat [] != told) = ((!PyData.eqv (TI (made.getD pl.toNat [])) (TI told)) || false) := by
        rw [eqv_TI, Bool.or_false]
        by_cases h : made.getD pl.toNat [] = told
        · rw [h]; simp
        · rw [decide_eq_false h]; exact bne_iff_ne.mpr h
      rw [e]
      refine all_or_cons (tst_ne (hm := by with_unfolding_all rfl) ?_ ?_ (pl_shaped (pl_TI _) (by decide)) (pl_shaped (pl_TI _) (by decide)) (by have := hA.un; lia)) fun _ _ _ => all_or_nil
      · exact (ex_item (hsub := by intro _ _; with_unfolding_all rfl) (xs := made.map TI) (k := pl) (ex_val (h1 := by decide) (h2 := by decide) rfl ((F₁₂.up k₁).nm (by rfl) mm₁₂) fun W' l => ((u₁₂.up k₁).up l).sl) (ex_var (h1 := by decide) (h2 := by decide) rfl ((F₁₂.up k₁).nm (by rfl) upd_at) (.int pl t12)) hplb.1 (by lia) hget).sh
      · exact (ex_var (h1 := by decide) (h2 := by decide) rfl ((F₁₂.up k₁).nm (by rfl) mt₁₂) (it₁₂.le k₁)).sh
    · intro hb W₁₃ tk₁₃ l₁₃
      have emade' : madesOf T p ((everyOf p).take (i + 1)) = insL made told := by
        rw [emade]; unfold mstep; rw [hto, hpl, if_pos hb]
      have F₁₃ := F₁₂.up l₁₃
      have u₁₃ := u₁₂.up l₁₃
      have x₁₃ := x₁₂.up l₁₃
      refine wpAny_execs_cons (wpAny_Expr_any (wp_call2 (W := W₁₃) (P₁ := fun _ v => v = .ref D') (P₂ := fun _ v => v = .ref ta) rfl (ex_global (hd := by decide) rfl rfl (by rfl) H.G N.mi) N.fi.fn rfl (ex_val (h1 := by decide) (h2 := by decide) rfl (F₁₃.nm (by rfl) mm₁₂) fun _ _ => rfl) (ex_val (h1 := by decide) (h2 := by decide) rfl (F₁₃.nm (by rfl) mt₁₂) fun _ _ => rfl) fun V₁ V₂ a b tk₁₄ k₁ k₂ e₁ e₂ => ?_) (by rfl) (by with_unfolding_all rfl))
      subst e₁ e₂
      have kk := k₁.trans k₂
      have u₁₄ := u₁₃.up kk
      refine ins_call H N.toBis (hA.le (by decide)) rfl u₁₄ ((it₁₂.le l₁₃).le kk) (by lia) N.nl fun W₁₅ tk₁₅ l₁₅ u₁₅ => ?_
      have F₁₅ := ((F₁₃.up kk).hide (U := u₁₄.ui.un) b0).up l₁₅
      have fz₁₅ : ∀ a o, W₁₂.F a = some o → W₁₅.F a = some o := fun a o e => l₁₅.fz a o (kk.fz a o (l₁₃.fz a o e))
      refine wpAny_execs_nil (wpAny_execs_nil (hQ _ _ ⟨W₁₅, _, _, _, rfl, F₁₅, ⟨I₁₂.keep fz₁₅ rfl rfl rfl rfl rfl rfl, D', d', b0, b1, b2, mm₁₂, b4, ?_, ((x₁₃.up kk).hide).up l₁₅⟩, ((((ha0.trans (.of_le l₁₁)).trans s₁₂.ha).trans (.of_le l₁₃)).trans (.of_le kk)).trans (Hard.of_hide l₁₅)⟩))
      rw [emade']; exact u₁₅
    · intro hb W₁₃ tk₁₃ l₁₃
      have emade' : madesOf T p ((everyOf p).take (i + 1)) = made := by
        rw [emade]; unfold mstep; rw [hto, hpl, if_neg (by rw [hb]; exact Bool.false_ne_true)]
      refine wpAny_execs_nil (wpAny_execs_nil (hQ _ _ ⟨W₁₃, _, _, _, rfl, F₁₂.up l₁₃, ⟨I₁₂.keep l₁₃.fz rfl rfl rfl rfl rfl rfl, D', d', b0, b1, b2, mm₁₂, b4, ?_, x₁₂.up l₁₃⟩, ((ha0.trans (.of_le l₁₁)).trans s₁₂.ha).trans (.of_le l₁₃)⟩))
      rw [emade']; exact u₁₂.up l₁₃
  · intro W' m' cm' tk F' inv
    rw [List.length_map] at inv
    exact k W' m' cm' tk F' inv
end
end Mine
namespace Mine
theorem minRun_le : ∀ n < 130, minRun' n n 0 ≤ n := by decide +kernel
section
variable {prog : Program} {w : World} {A : Around} {E : Value → Shared → Prop} {κ : SortKind} {it : Array Keyed}

theorem asc_all {p : Array Nat} {cmp : Nat → Nat → (Bool → Shared → Prop) → Shared → Prop} {G : Nat → Shared → Prop} {s : Shared} {N : Nat} (hc : ∀ i, 1 ≤ i → i < N → ∀ C : Bool → Shared → Prop, C false s → cmp (p.getD i 0) (p.getD (i - 1) 0) C s) :
    ∀ (f n : Nat), 1 ≤ n → n + f = N → G N s → (kas_asc p f n).kasWp cmp G s
  | 0, n, _, e, h => by rw [Nat.add_zero] at e; subst e; exact h
  | f + 1, n, h1, e, h => by
    refine hc n h1 (by lia) _ ?_
    show (if false = true then KasT.ret n else kas_asc p f (n + 1)).kasWp cmp G s
    rw [if_neg (by decide)]
    exact asc_all hc f (n + 1) (by lia) (by lia) h

theorem count_all {n : Nat} {s : Shared} (h2 : 2 ≤ n) (hc : ∀ i, 1 ≤ i → i < n → ∀ C : Bool → Shared → Prop, C false s → kas_cmp prog w A κ it i (i - 1) C s) :
    (kas_count n (List.toArray (List.range n))).kasWp (kas_cmp prog w A κ it) (fun r s' => r = (n, List.toArray (List.range n)) ∧ s' = s) s := by
  unfold kas_count
  rw [KasT.kasWp_bind]
  refine asc_all (N := n) (fun i h1 hi C hC => ?_) (n - 1) 1 (Nat.le_refl _) (by lia) ?_
  · have e1 : (List.toArray (List.range n)).getD i 0 = i := by simp [Array.getD, hi]
    have e2 : (List.toArray (List.range n)).getD (i - 1) 0 = i - 1 := by
      have : i - 1 < n := by lia
      simp [Array.getD, this]
    rw [e1, e2]
    exact hc i h1 hi C hC
  · rw [if_pos (beq_self_eq_true n)]
    exact ⟨rfl, rfl⟩
theorem runs_sorted0 {r mr : Nat} {p : Array Nat} {Q : Unit → SortSt → Shared → Prop} {s : Shared} (hmr : mr ≤ r + 2) (hrs : p.size = r + 2) (hcount : (kas_count (r + 2) p).kasWp (kas_cmp prog w A κ it) (fun r' s' => r' = (r + 2, p) ∧ s' = s) s)
    (hG : ∀ st', arrOf st' = p.map (kas_item it) → failedOf st' = none → Q () st' s) (emr : minRun' (arrOf (kas_st κ it p)).size (arrOf (kas_st κ it p)).size 0 = mr) (hsz : (arrOf (kas_st κ it p)).size = r + 2) :
    kasC (model prog w) A E sortRuns' Q (kas_st κ it p) s := by
  rw [sortRuns'_eq]
  refine kasC_bind (kasC_get ?_)
  dsimp only
  rw [emr, hsz]
  refine kasC_bind (kasC_range ?_)
  show kasC _ _ _ (forIn (0 :: 1 :: List.range' 2 r) _ _) _ _ _
  refine kasC_cons ?_
  dsimp only
  rw [if_neg (Nat.not_le.mpr (Nat.succ_pos _))]
  rw [Nat.sub_zero]
  refine kasC_bind (kas_count_ (Nat.succ_pos _) (by rw [hrs]; exact Nat.le_refl _) (fun m p' s' hm1 hm2 hp hg => ?_) hcount)
  obtain ⟨e, rfl⟩ := hg
  cases e
  dsimp only
  rw [if_neg (Nat.not_lt.mpr hmr)]
  refine kasC_bind (kasC_get ?_)
  rw [show (pendingOf (kas_st κ it p)).back? = none from rfl]
  dsimp only
  refine kasC_bind (kasC_modify (kasC_pure ?_))
  show kasC _ _ _ (forIn (1 :: List.range' 2 r) _ _) _ _ _
  refine kasC_cons ?_
  dsimp only
  rw [if_pos (Nat.le_add_left _ _)]
  refine kasC_pure ?_
  dsimp only
  refine kasC_bind (kasC_range ?_)
  show kasC _ _ _ (forIn (0 :: 1 :: List.range' 2 r) _ _) _ _ _
  refine kasC_cons ?_
  refine kasC_bind (kasC_get ?_)
  rw [if_pos (show (pendingOf (setPending (kas_st κ it p) ((pendingOf (kas_st κ it p)).push (0, r + 2, 0)))).size ≤ 1 from Nat.le_refl 1)]
  refine kasC_pure ?_
  dsimp only
  exact kasC_pure (hG _ rfl rfl)
theorem runs_sorted {n : Nat} {Q : Unit → SortSt → Shared → Prop} {s : Shared} (h2 : 2 ≤ n) (h130 : n < 130) (hc : ∀ i, 1 ≤ i → i < n → ∀ C : Bool → Shared → Prop, C false s → kas_cmp prog w A κ it i (i - 1) C s)
    (hG : ∀ st', arrOf st' = (List.toArray (List.range n)).map (kas_item it) → failedOf st' = none → Q () st' s) :
    kasC (model prog w) A E sortRuns' Q (kas_st κ it (List.toArray (List.range n))) s := by
  have hcount := count_all h2 hc
  clear hc
  obtain ⟨r, rfl⟩ : ∃ r, n = r + 2 := ⟨n - 2, by omega⟩
  have hrs : (List.toArray (List.range (r + 2))).size = r + 2 := by simp
  have hsz : (arrOf (kas_st κ it (List.toArray (List.range (r + 2))))).size = r + 2 := by
    show ((List.toArray (List.range (r + 2))).map (kas_item it)).size = _
    rw [Array.size_map, hrs]
  exact runs_sorted0 (minRun_le _ h130) hrs hcount hG (by rw [hsz]) hsz

theorem lex_ints {Q : Bool → Shared → Prop} {s : Shared} : ∀ {vs us : List Value} {xs ys : List Int} {i : Nat}, IntsAre vs xs → IntsAre us ys → xs.length = ys.length → Q (ltL xs ys) s → KatLex prog w A true false Q (vs.zip us) i s
  | _, _, _, _, _, .nil, .nil, _, h => kat_nil h
  | _, _, _, _, _, .nil, .cons _ _ _, e, _ => by simp at e
  | _, _, _, _, _, .cons _ _ _, .nil, e, _ => by simp at e
  | _, _, _, _, i, .cons a t (vs := vs) (ns := xs) ia, .cons b u (vs := us) (ns := ys) ib, e, h => by
    refine kat_cons ((intKind prog w).eqBool (a := a) (b := b) (intKind_is prog w a t) (intKind_is prog w b u) ?_)
    have h' : Q (if a = b then ltL xs ys else decide (a < b)) s := h
    by_cases hab : a = b
    · rw [if_pos hab] at h'
      rw [decide_eq_true hab]
      exact kat_yes (lex_ints ia ib (by simpa using e) h')
    · rw [if_neg hab] at h'
      rw [decide_eq_false hab]
      refine kat_no ?_
      cases hi : (true && i == 0) with
      | true => exact oneLt_int h'
      | false => exact kat_one _ _ (P.lt_int h')
theorem keyLt_tup {a b : Addr} {vs us : Array Value} {xs ys : List Int} {Q : Bool → Shared → Prop} {s : Shared} (ha : IsTup s.heap a vs) (hb : IsTup s.heap b us) (ia : IntsAre vs.toList xs) (ib : IntsAre us.toList ys) (e : xs.length = ys.length) (h : Q (ltL xs ys) s) :
    wpAny (model prog w) A (keyLt' (tuples' true) (.ref a) (.ref b)) Q E s := by
  obtain ⟨oa, hoa, hca, na, hda⟩ := ha
  obtain ⟨ob, hob, hcb, nb, hdb⟩ := hb
  have l1 := ia.length
  have l2 := ib.length
  refine kat_lt hoa hda hob hdb ?_
  have hsz : decide (vs.size < us.size) = false := decide_eq_false (by simp at l1 l2; lia)
  rw [hsz]
  exact lex_ints ia ib e h
end

section
variable {g : Heap} {prog : Program} {w : World} {A : Around} {B B' W W' : Wld g} {env : Env} {own : List Addr} {m : Str → Option Value} {cm : Addr → Option Value} {s : Shared} {rest : List Stmt} {Q : Flow → Shared → Prop} {E : Value → Shared → Prop}

theorem evn_sorted {v : Value} {xs : List PyData} (κ : SortKind) (h : SL xs W v) (hlen : xs.length < 130)
    (hkk : ∀ (vs : List Value) (s : Shared) (A : Around) (Q : SortKind → Shared → Prop), 2 ≤ vs.length → IsVs W.F vs xs → (∀ a o, W.F a = some o → s.heap.get? a = some o) → Q κ s → wpAny (model prog w) A (keyKind' vs.toArray) Q (fun _ _ => False) s)
    (hlt : ∀ (i : Nat) (x y : Value) (dx dy : PyData) (s : Shared) (A : Around) (Q : Bool → Shared → Prop), 1 ≤ i → xs[i]? = some dx → xs[i - 1]? = some dy → IsV W.F x dx → IsV W.F y dy → (∀ a o, W.F a = some o → s.heap.get? a = some o) → Q false s → wpAny (model prog w) A (keyLt' κ x y) Q (fun _ _ => False) s) :
    EvN prog w A (call (.builtin "sorted") [v]) W xs := by
  intro W' l s hs Q E k
  obtain ⟨a0, vs0, rfl, hl0, q0⟩ := h
  obtain ⟨vs, rfl⟩ : ∃ l : List Value, vs0 = l.toArray := ⟨vs0.toList, by simp⟩
  have q : IsVs W.F vs xs := q0
  have len : vs.length = xs.length := q.length
  have h130 : 130 ≤ sizeLine := by decide
  have hl : s.heap.IsList a0 vs.toArray := by
    rw [hs]
    obtain ⟨o, e, c, n, d⟩ := hl0
    exact ⟨o, l.mv e (.inr ⟨_, c⟩), c, n, d⟩
  refine Calls.call_function_entry kind_sorted plain_sorted entry_sorted (args_sorted1 _) ?_
  unfold Builtin.«sorted»
  refine wpAny_bind (m := checkCount "sorted" 1 1 _) (wpAny_pure ?_)
  refine wpAny_bind (collect_list hl ?_ (by lia))
  refine wpAny_bind (wpAny_newList ?_ (by lia))
  have hsz : ((s.heap.push (seqObj "list" #[] 0)).update s.heap.objs.size (Obj.mapSeq (· ++ vs.toArray))).objs.size = s.heap.objs.size + 1 := by
    rw [Heap.size_update, size_push']
  have hoL : (((s.heap.push (seqObj "list" #[] 0)).update s.heap.objs.size (Obj.mapSeq (· ++ vs.toArray))).push (seqObj "list" vs.toArray 0)).get? (s.heap.objs.size + 1) = some (seqObj "list" vs.toArray 0) := by
    rw [← hsz]; exact Heap.get?_push_size _ rfl
  have keep : ∀ b o, s.heap.get? b = some o → (((s.heap.push (seqObj "list" #[] 0)).update s.heap.objs.size (Obj.mapSeq (· ++ vs.toArray))).push (seqObj "list" vs.toArray 0)).get? b = some o := fun b o q => by
    have hlt : b < s.heap.objs.size := Heap.lt_size q
    rw [Heap.get?_push_ne _ _ _ (by rw [hsz]; exact Nat.ne_of_lt (Nat.lt_succ_of_lt hlt)), Heap.get?_update_ne _ _ _ _ (Nat.ne_of_lt hlt), Heap.get?_push_ne _ _ _ (Nat.ne_of_lt hlt)]
    exact q
  show wpAny _ _ _ _ _ { s with heap := ((s.heap.push (seqObj "list" #[] 0)).update s.heap.objs.size (Obj.mapSeq (· ++ vs.toArray))).push (seqObj "list" vs.toArray 0) }
  rw [hsz]
  generalize ((s.heap.push (seqObj "list" #[] 0)).update s.heap.objs.size (Obj.mapSeq (· ++ vs.toArray))).push (seqObj "list" vs.toArray 0) = h1 at hoL keep
  have fresh : W'.h.get? (s.heap.objs.size + 1) = none := W'.new_none (by rw [← hs]; exact Nat.le_succ _)
  -- the end: the list stands, the rest is kept
  have fin : ∀ (h' : Heap) (c : Nat), (∀ b o, s.heap.get? b = some o → h'.get? b = some o) → h'.get? (s.heap.objs.size + 1) = some (seqObj "list" vs.toArray c) → Q (.ref (s.heap.objs.size + 1)) { s with heap := h' } := by
    intro h' c kp eD
    have kp' : ∀ b o, W'.h.get? b = some o → h'.get? b = some o := fun b o e => kp b o (by rw [hs]; exact e)
    exact k (W'.grow h' kp') s.toks _ (W'.grow_le h' kp') ⟨_, vs.toArray, c, rfl, eD, Wld.F_none (W := W') fresh, q.le l, fresh⟩
  refine wpAny_bind (wpAny_holding (wpAny_call_entry slot_list_sort ⟨_, hoL, rfl⟩ entry_list_sort ?body (args_list_sort _)))
  case body =>
    generalize hD : s.heap.objs.size + 1 = D at hoL fin fresh
    have nD : ∀ b o, s.heap.get? b = some o → b ≠ D := fun b o e q => absurd (Heap.lt_size e) (by rw [q, ← hD]; exact Nat.not_lt.mpr (Nat.le_succ _))
    have s1 := Heap.SameBut.update h1 D (Obj.mapSeq fun _ => (#[] : Array Value))
    obtain ⟨e1, ho1⟩ : ∃ e1, (h1.update D (Obj.mapSeq fun _ => (#[] : Array Value))).get? D = some (seqObj "list" #[] e1) := ⟨_, get?_update_seq hoL fun _ => #[]⟩
    rw [list_sort_plain]
    refine wpAny_bind (listItems_at (s := { s with heap := h1 }) hoL rfl ?_)
    refine wpAny_bind (listUpdate_at (s := { s with heap := h1 }) hoL rfl ?_ (by rw [List.size_toArray]; lia) (Nat.zero_le _))
    refine wpAny_bind (seqEpoch_at (s := { s with heap := h1.update D (Obj.mapSeq fun _ => (#[] : Array Value)) }) ho1 rfl ?_)
    refine wpAny_bind (wpAny_newTuple ?_ (by show vs.length ≤ _; lia))
    refine wpAny_bind (wpAny_newList ?_ (Nat.zero_le _))
    refine wpAny_holding ?_
    show wpAny (model prog w) _ _ _ _ { s with heap := ((h1.update D (Obj.mapSeq fun _ => (#[] : Array Value))).push (seqObj "tuple" vs.toArray 0)).push (seqObj "list" #[] 0) }
    dsimp only
    have keep2 : ∀ b o, s.heap.get? b = some o → (((h1.update D (Obj.mapSeq fun _ => (#[] : Array Value))).push (seqObj "tuple" vs.toArray 0)).push (seqObj "list" #[] 0)).get? b = some o := fun b o e =>
      Heap.get?_push_of_some _ (Heap.get?_push_of_some _ (s1.extBut b o (nD b o e) (keep b o e)))
    have ho2 : (((h1.update D (Obj.mapSeq fun _ => (#[] : Array Value))).push (seqObj "tuple" vs.toArray 0)).push (seqObj "list" #[] 0)).get? D = some (seqObj "list" #[] e1) := Heap.get?_push_of_some _ (Heap.get?_push_of_some _ ho1)
    generalize ((h1.update D (Obj.mapSeq fun _ => (#[] : Array Value))).push (seqObj "tuple" vs.toArray 0)).push (seqObj "list" #[] 0) = h2 at keep2 ho2
    have fzk : ∀ a o, W.F a = some o → h2.get? a = some o := fun a o e => keep2 a o (by rw [hs]; exact W'.inn a o (l.fz a o e))
    obtain ⟨c2, hc2⟩ : ∃ c2, (h2.update D (Obj.mapSeq fun _ => vs.toArray)).get? D = some (seqObj "list" vs.toArray c2) := ⟨_, get?_update_seq ho2 fun _ => vs.toArray⟩
    have s2 := Heap.SameBut.update h2 D (Obj.mapSeq fun _ => vs.toArray)
    have done := fin _ c2 (fun b o e => s2.extBut b o (nD b o e) (keep2 b o e)) hc2
    have hpairs : (vs.toArray.zip vs.toArray).map (·.2) = vs.toArray := by
      apply Array.ext
      · simp
      · intro i h1 h2; simp
    by_cases hn2 : vs.length < 2
    · have hn2' : vs.toArray.size < 2 := by rw [List.size_toArray]; exact hn2
      rw [if_pos hn2', if_pos hn2']
      refine wpAny_bind (wpAny_pure ?_)
      refine wpAny_bind (wpAny_pure ?_)
      dsimp only
      rw [show (arrOf (SortSt.mk' general' (vs.toArray.zip vs.toArray) #[] 7 none)).map (·.2) = vs.toArray from hpairs]
      refine wpAny_bind (seqEpoch_at (s := { s with heap := h2 }) ho2 rfl ?_)
      refine wpAny_bind (listUpdate_at (s := { s with heap := h2 }) ho2 rfl ?_ (Nat.zero_le _) (by rw [List.size_toArray]; lia))
      simp only [bne_self_eq_false, Bool.false_eq_true, if_false]
      exact wpAny_pure ⟨_, rfl, wpAny_pure ⟨_, rfl, done⟩⟩
    · have hn2' : ¬ vs.toArray.size < 2 := by rw [List.size_toArray]; exact hn2
      rw [if_neg hn2', if_neg hn2']
      refine wpAny_bind (wpAny_mono (hkk vs _ _ _ (by lia) q fzk ?_) (fun _ _ x => x) fun _ _ x => x.elim)
      have est : SortSt.mk' κ (vs.toArray.zip vs.toArray) #[] 7 none = kas_st κ (vs.toArray.zip vs.toArray) (List.toArray (List.range vs.length)) := by
        have e := kas_range (vs.toArray.zip vs.toArray)
        rw [show (vs.toArray.zip vs.toArray).size = vs.length by simp] at e
        show SortSt.mk' κ (vs.toArray.zip vs.toArray) #[] 7 none = SortSt.mk' κ ((List.toArray (List.range vs.length)).map (kas_item (vs.toArray.zip vs.toArray))) #[] 7 none
        rw [e]
      rw [est]
      have run := runs_sorted (prog := prog) (w := w) (A := A.in1.in1) (E := fun e s' => E e s') (κ := κ) (it := vs.toArray.zip vs.toArray) (n := vs.length) (s := { s with heap := h2 }) (Q := fun _ st' s' => (arrOf st').map (·.2) = vs.toArray ∧ failedOf st' = none ∧ s' = { s with heap := h2 }) (by lia) (by omega) (fun i h1 hi C hC => ?_) (fun st' e1 e2 => ⟨?_, e2, rfl⟩)
      · refine wpAny_bind (wpAny_mono run ?_ fun _ _ e => e)
        rintro ⟨⟨⟩, st'⟩ s' ⟨har, hf, rfl⟩
        dsimp only
        rw [har]
        refine wpAny_bind (seqEpoch_at (s := { s with heap := h2 }) ho2 rfl ?_)
        refine wpAny_bind (listUpdate_at (s := { s with heap := h2 }) ho2 rfl ?_ (Nat.zero_le _) (by rw [List.size_toArray]; omega))
        rw [hf]
        simp only [bne_self_eq_false, Bool.false_eq_true, if_false]
        exact wpAny_pure ⟨_, rfl, wpAny_pure ⟨_, rfl, done⟩⟩
      · unfold kas_cmp
        rw [kat_item rfl, kat_item rfl]
        have hv1 : vs[i]? = some (vs.getD i .none) := by rw [List.getD_eq_getElem?_getD, List.getElem?_eq_getElem hi]; rfl
        have hv2 : vs[i - 1]? = some (vs.getD (i - 1) .none) := by rw [List.getD_eq_getElem?_getD, List.getElem?_eq_getElem (by omega)]; rfl
        obtain ⟨dx, hdx, ix⟩ := q.get' i hv1
        obtain ⟨dy, hdy, iy⟩ := q.get' (i - 1) hv2
        exact hlt i _ _ dx dy _ _ C h1 hdx hdy ix iy fzk hC
      · rw [e1]
        have e := kas_range (vs.toArray.zip vs.toArray)
        rw [show (vs.toArray.zip vs.toArray).size = vs.length by simp] at e
        rw [e]; exact hpairs

/- sorted(ts), tuples of one length in order -/
theorem evn_sortedT {v : Value} {ts : List (List Int)} {n : Nat} (h : SL (ts.map TI) W v) (hlen : ts.length < 130) (hn : ∀ t ∈ ts, t.length = n) (hn1 : 1 ≤ n) (hs : ∀ i, 1 ≤ i → i < ts.length → ltL (ts.getD i []) (ts.getD (i - 1) []) = false) :
    EvN prog w A (call (.builtin "sorted") [v]) W (ts.map TI) := by
  have tup : ∀ (s : Shared) (x : Value) (t : List Int), (∀ a o, W.F a = some o → s.heap.get? a = some o) → IsV W.F x (TI t) → ∃ a vs o n, x = .ref a ∧ s.heap.get? a = some o ∧ o.cls = .type "tuple" ∧ o.data = .seq vs n ∧ IntsAre vs.toList t := by
    intro s x t hk hx
    cases hx with
    | @tuple a o vs n _ hF hc hd q => exact ⟨a, vs, o, n, rfl, hk _ _ hF, hc, hd, IsVs.ints q⟩
  refine evn_sorted (tuples' true) h (by rw [List.length_map]; exact hlen) (fun vs s A Q h2 q hk hQ => ?_) (fun i x y dx dy s A Q h1 hx hy ix iy hk hQ => ?_)
  · have go : ∀ (vs : List Value) (ts : List (List Int)), (∀ t ∈ ts, t.length = n) → IsVs W.F vs (ts.map TI) → ∃ fs : List Value, KatTups s.heap vs fs ∧ fs.length = vs.length ∧ ∀ v ∈ fs, ∃ a t, v = .int a t := by
      intro vs ts
      induction ts generalizing vs with
      | nil => intro _ q; cases q; exact ⟨[], .nil, rfl, fun _ h => nomatch h⟩
      | cons t ts ih =>
        intro hn q
        cases q with | cons i q =>
        obtain ⟨a, us, o, c, rfl, e, hc, hd, ii⟩ := tup s _ t hk i
        obtain ⟨fs, f1, f2, f3⟩ := ih _ (fun t ht => hn t (.tail _ ht)) q
        have ht := hn t (.head _)
        cases t with
        | nil => simp at ht; lia
        | cons z zs =>
          obtain ⟨l, rfl⟩ : ∃ l : List Value, us = l.toArray := ⟨us.toList, by simp⟩
          cases ii with | cons _ tk _ =>
          exact ⟨.int z tk :: fs, .cons e hc hd (by simp) f1, by rw [List.length_cons, List.length_cons, f2], fun v hv => by
            rcases List.mem_cons.mp hv with rfl | hv
            · exact ⟨_, _, rfl⟩
            · exact f3 v hv⟩
    obtain ⟨fs, f1, f2, f3⟩ := go vs ts hn q
    refine kat_kind (T := .type "int") f1 (by lia) (fun v hv => ?_) (by rfl) hQ
    obtain ⟨a, t, rfl⟩ := f3 v hv
    exact .now
  · rw [List.getElem?_map] at hx hy
    obtain ⟨tx, etx, rfl⟩ := Option.map_eq_some_iff.mp hx
    obtain ⟨ty, ety, rfl⟩ := Option.map_eq_some_iff.mp hy
    obtain ⟨a, vs, o, c, rfl, e, hc, hd, ii⟩ := tup s _ tx hk ix
    obtain ⟨a', vs', o', c', rfl, e', hc', hd', ii'⟩ := tup s _ ty hk iy
    have hi : i < ts.length := by
      rcases Nat.lt_or_ge i ts.length with h | h
      · exact h
      · rw [List.getElem?_eq_none h] at etx; cases etx
    have z := hs i h1 hi
    rw [List.getD_eq_getElem?_getD, List.getD_eq_getElem?_getD, etx, ety] at z
    refine keyLt_tup ⟨o, e, hc, c, hd⟩ ⟨o', e', hc', c', hd'⟩ ii ii' ((hn _ (List.mem_of_getElem? etx)).trans (hn _ (List.mem_of_getElem? ety)).symm) ?_
    rw [show ltL tx ty = false from z]; exact hQ
/- sorted(ns), numbers in order -/
theorem evn_sortedN {v : Value} {ns : List Int} (h : SL (ns.map .int) W v) (hlen : ns.length < 130) (hs : ∀ i, 1 ≤ i → i < ns.length → ¬ ns.getD i 0 < ns.getD (i - 1) 0) : EvN prog w A (call (.builtin "sorted") [v]) W (ns.map .int) := by
  refine evn_sorted oneType' h (by rw [List.length_map]; exact hlen) (fun vs s A Q h2 q hk hQ => ?_) (fun i x y dx dy s A Q h1 hx hy ix iy hk hQ => ?_)
  · have ii : IntsAre vs ns := IsVs.ints q
    refine kas_kind (T := .type "int") h2 (fun v hv => ?_) (by rfl) (by rfl) hQ
    have go : ∀ (vs : List Value) (ns : List Int), IntsAre vs ns → ∀ v ∈ vs, ∃ a t, v = .int a t := by
      intro vs ns h
      induction h with
      | nil => exact fun _ h => nomatch h
      | cons n t _ ih => exact fun v hv => (List.mem_cons.mp hv).elim (fun e => ⟨n, t, e⟩) (ih v)
    obtain ⟨a, t, rfl⟩ := go vs ns ii v hv
    exact .now
  · rw [List.getElem?_map] at hx hy
    obtain ⟨tx, etx, rfl⟩ := Option.map_eq_some_iff.mp hx
    obtain ⟨ty, ety, rfl⟩ := Option.map_eq_some_iff.mp hy
    obtain ⟨t, rfl⟩ := IsV.intI ix; obtain ⟨u, rfl⟩ := IsV.intI iy
    have hi : i < ns.length := by
      rcases Nat.lt_or_ge i ns.length with h | h
      · exact h
      · rw [List.getElem?_eq_none h] at etx; cases etx
    have z := hs i h1 hi
    rw [List.getD_eq_getElem?_getD, List.getD_eq_getElem?_getD, etx, ety] at z
    rw [keyLt'_oneType]
    refine oneLt_int ?_
    rw [decide_eq_false (show ¬ tx < ty from z)]
    exact hQ
end
end Mine
namespace Mine
noncomputable def begOf (r : List Int) : List Int := ((List.range 3).map fun (k : Nat) => (k : Int)).filter fun k => r.getD k.toNat 0 != 0
noncomputable def beginsOf (Lf : List (List Int)) : List Int := Lf.map fun r => (begOf r).headD 0
noncomputable def transOf (T : List (List Int)) : List (List Int) := (List.range 3).map fun k => T.map fun r => r.getD k 0
noncomputable def bothOf (p : Int) (r l : List Int) : List Int := (List.range 3).map fun k => (r.getD k 0 + l.getD k 0).fmod p
noncomputable def dblOf (p : Int) (r : List Int) : List Int := r.map fun n => (2 * n).fmod p
/- what the law asks, in plain words -/
structure LawOk (T : List (List Int)) (p : Int) : Prop where
  rank3 : (leftOf p 3 T).length ≤ 3
  cnts : ∀ t ∈ madesOf T p (everyOf p), cnt T p (everyOf p) t = (nothingOf T p).length
  nul : ((nothingOf T p).length : Int) = p ^ (3 - (leftOf p 3 T).length)
  img : ((madesOf T p (everyOf p)).length : Int) = p ^ (leftOf p 3 T).length
  srt : ∀ i, 1 ≤ i → i < (madesOf T p (everyOf p)).length → ltL ((madesOf T p (everyOf p)).getD i []) ((madesOf T p (everyOf p)).getD (i - 1) []) = false
  lenM : ∀ t ∈ madesOf T p (everyOf p), t.length = T.length
  ker : (everyOf p).filter (zeroB (leftOf p 3 T) p) = nothingOf T p
  beg1 : ∀ r ∈ leftOf p 3 T, begOf r ≠ []
  beg2 : ∀ i, 1 ≤ i → i < (leftOf p 3 T).length → ¬ (beginsOf (leftOf p 3 T)).getD i 0 < (beginsOf (leftOf p 3 T)).getD (i - 1) 0
  piv : ∀ j k, j < (leftOf p 3 T).length → k < (leftOf p 3 T).length → ((leftOf p 3 T).getD j []).getD ((beginsOf (leftOf p 3 T)).getD k 0).toNat 0 = if j = k then 1 else 0
  trn : (leftOf p T.length (transOf T)).length = (leftOf p 3 T).length
  rev : leftOf p 3 T.reverse = leftOf p 3 T
  clo1 : ∀ r ∈ nothingOf T p, bothOf p r ((nothingOf T p).getLastD []) ∈ nothingOf T p
  clo2 : ∀ r ∈ nothingOf T p, dblOf p r ∈ nothingOf T p

theorem begOf_bd {r : List Int} : ∀ k ∈ begOf r, 0 ≤ k ∧ k < 3 := by
  intro k hk
  unfold begOf at hk
  obtain ⟨hk, _⟩ := List.mem_filter.mp hk
  obtain ⟨j, hj, rfl⟩ := List.mem_map.mp hk
  have := List.mem_range.mp hj
  lia
theorem headD_bd {r : List Int} : 0 ≤ (begOf r).headD 0 ∧ (begOf r).headD 0 < 3 := by
  cases h : begOf r with
  | nil => exact ⟨Int.le_refl 0, by decide⟩
  | cons k ks =>
    have := begOf_bd (r := r) k (by rw [h]; exact .head _)
    exact this

section
variable {g : Heap} {prog : Program} {w : World} {A : Around} {B B' W W' : Wld g} {env : Env} {own : List Addr} {m : Str → Option Value} {cm : Addr → Option Value} {s : Shared} {rest : List Stmt} {Q : Flow → Shared → Prop} {E : Value → Shared → Prop}
variable {mg mb : Str → Option Value} {L fa : Addr} {cd : Value}
theorem tst_and {x y : Expr} {rest : List Expr} {p : Pos} {b c : Bool} (h1 : Tst prog w A env x W b) (h2 : b = true → ∀ W', W.Le W' → Ev prog w A (allTrue .And (y :: rest) env) W' fun _ b' => b' = c) :
    Tst prog w A env (.BoolOp .And (x :: y :: rest) p) W (b && c) := by
  show Ev prog w A (allTrue .And (x :: y :: rest) env) W _
  exact all_and_cons h1 h2
theorem eqv_refl {n : Nat} {d : PyData} (h : pl n d = true) : PyData.eqv d d = true := (pl_eqv n d d n h h).mpr rfl
theorem pl_LTI (rows : List (List Int)) : pl 2 (.list (rows.map TI)) = true := by
  show ((rows.map TI).all (pl 1)) = true
  rw [List.all_eq_true]
  intro x hx
  obtain ⟨y, _, rfl⟩ := List.mem_map.mp hx
  exact pl_TI y
theorem tst_nec {l r : Expr} {pos : Pos} {x y : PyData} {c : Bool} (h1 : Ex prog w A env l W (Sh x)) (h2 : Ex prog w A env r W (Sh y)) (sx : SeqAt.shaped x = true) (sy : SeqAt.shaped y = true) (hu : A.units + 64 < cLine) (e : (!PyData.eqv x y) = c)
    (hm : behindInMarks .NotEq r = false) : Tst prog w A env (.Compare l [.NotEq] [r] pos) W c := e ▸ tst_ne h1 h2 sx sy hu hm
theorem ex_lenL {x : Str} {np xp pos : Pos} {xs : List PyData} {k : Int} (hf : Ex prog w A env (.Name "len" np) W fun _ v => v = .builtin "len") (hst : starEach [.Name x xp] env = [(false, eval (.Name x xp) env)]) (h : Ex prog w A env (.Name x xp) W (SL xs)) (hl : xs.length < 1000) (e : (xs.length : Int) = k) : Ex prog w A env (.Call (.Name "len" np) [.Name x xp] [] pos) W (V (.int k)) := by
  subst e
  exact ex_call1 (f := .builtin "len") (P₁ := SL xs) hf rfl hst h fun W₁ a l₁ p₁ => ev_len p₁ (by lia)

theorem law_C1 {p : Int} {T : List (List Int)} (H : Gd g mg mb) (N : LawF g mg) (hA : Ok 20 A) (hs : s.heap = W.h) (F : FS B W (lawEnv L fa cd) (lawOwn L) m cm) (hp : PrimeOk p) (hT : Bd p 3 T) (hT1 : T ≠ []) (hT3 : T.length ≤ 3) (K : LawOk T p) (I : LoopI prog w B L p T (everyOf p).length W m cm)
    (k : ∀ (W' : Wld g) tk, FS B W' (lawEnv L fa cd) (lawOwn L) m cm → LS L p T W' m cm → wpAny (model prog w) A (execs (lawB 12) (lawEnv L fa cd)) Q E { s with heap := W'.h, toks := tk }) :
    wpAny (model prog w) A (execs (lawB 10) (lawEnv L fa cd)) Q E s := by
  refine wp_norm hs ?_
  have hpp := hp.pos
  have sz : ∀ n, n ≤ 1000 → n ≤ sizeLine := fun n h => Nat.le_trans h (by decide)
  obtain ⟨I, D, d, b0, b1, b2, b3, b4, u, x⟩ := I
  rw [List.take_length] at u x
  have hM := madesOf_len T p (everyOf p)
  have hel := everyOf_len hp
  obtain ⟨vp, cp, ip⟩ := I.pr
  obtain ⟨vr, cr, ir⟩ := I.rk
  obtain ⟨vn, cn, inn⟩ := I.no
  obtain ⟨vl, cl', il⟩ := I.lf
  obtain ⟨ve, cve, ive⟩ := I.ev
  have hN : (nothingOf T p).length ≤ 125 := Nat.le_trans (List.length_filter_le _ _) hel
  have hN0 : (nothingOf T p).length ≠ 0 := fun q => by
    have := K.nul
    rw [q] at this
    have : (0 : Int) < p ^ (3 - (leftOf p 3 T).length) := Int.pow_pos (by lia)
    lia
  have hr3 := K.rank3
  generalize hrk : (leftOf p 3 T).length = rank at ir hr3
  have Knul := K.nul
  have Kimg := K.img
  rw [hrk] at Knul Kimg
  have un : A.units + 64 < cLine := by have := hA.un; lia
  have n2 : Nm W.h (lawEnv L fa cd) "made" (.ref D) := F.nm (by rfl) b3
  -- the first great test
  refine st_skip rfl (tst_or2 (b := false) (c := false) ?_ fun _ V₁ k₁ => all_or_cons (b := false) (c := false) ?_ fun _ V₂ k₂ => all_or_cons (b := false) (c := false) ?_ fun _ V₃ k₃ => all_or_cons (b := false) (c := false) ?_ fun _ V₄ k₄ => all_or_nil) fun W₁ tk₁ l₁ => ?_
  · have icO := F.ic (c := L + 8) (by first | exact lo1 | exact lo2 | exact lo3 | exact lo4 | exact lo5 | exact lo6 | exact lo7 | exact lo8 | exact lo9) b4
    have icN := F.ic (c := L + 7) (by first | exact lo1 | exact lo2 | exact lo3 | exact lo4 | exact lo5 | exact lo6 | exact lo7 | exact lo8 | exact lo9) cn
    refine tst_nec (hm := by with_unfolding_all rfl) (x := .list []) (y := .list []) (EvN.frz (EvN.cast (evn_comp1 (xs := (madesOf T p (everyOf p)).map TI) (fun _ => false) id (fun _ => rfl) (by with_unfolding_all rfl) rfl (by decide) (fun C => ⟨[], .nil (fun _ _ => rfl) (fun _ => rfl), .loc (by rfl) (by rfl) (List.mem_singleton_self _)⟩)
      ((ex_val (h1 := by decide) (h2 := by decide) (P := SL ((madesOf T p (everyOf p)).map TI)) rfl n2 fun W' l => (u.up l).sl).srcL hA.hh) (sz _ (by rw [List.length_map]; lia)) fun y hy W' C v l iv nm => ⟨?_, fun h => by cases h⟩) ?_)).sh (EvN.frz (ex_list .nil rfl (by decide))).sh (by decide) (by decide) un (by rfl)
    · obtain ⟨t, ht, rfl⟩ := List.mem_map.mp hy
      have hc : cntF T p (everyOf p) t = some ((nothingOf T p).length : Int) := by
        unfold cntF
        rw [K.cnts t ht, if_neg hN0]
      obtain ⟨ta, rfl⟩ : ∃ ta, v = .ref ta := by cases iv with | tuple => exact ⟨_, rfl⟩
      refine tsts_one (tst_cmp_int (hm := by with_unfolding_all rfl) (a := (nothingOf T p).length) (b := (nothingOf T p).length) ?_ ?_ fun t u s Q E h => PyProof.Rows.ne_int (by
        have e : (((nothingOf T p).length : Int) != ((nothingOf T p).length : Int)) = false := by simp
        rw [e]; exact h))
      · refine ex_sub (P₁ := fun _ v => v = .ref d) (P₂ := fun _ v => v = .ref ta) (ex_val (h1 := by decide) (h2 := by decide) rfl (nm_free (c := L + 8) (IsCell.le l icO) (.inl (by rfl)) (by rfl)) fun _ _ => rfl) (ex_val (h1 := by decide) (h2 := by decide) rfl nm fun _ _ => rfl) fun W₁ W₂ a b l₁ l₂ e₁ e₂ => ?_
        subst e₁ e₂
        intro W₃ l₃ s₃ hs₃ Q₃ E₃ k₃
        have x₃ := x.up (((l.trans l₁).trans l₂).trans l₃)
        obtain ⟨xs, hd, _⟩ := x₃.ofH
        refine tail_any (T := "dict") (show s₃.TypeIs (.ref d) "dict" from (show s₃.heap.DictOfH _ d xs by rw [hs₃]; exact hd).typeIs) PySem.F.slot_dict_getitem.lookup (wp_ditem (W := W₃) (by have := hA.un; lia) hs₃ x₃ (iv.le ((l₁.trans l₂).trans l₃)) hc fun tk t' => ?_) (by with_unfolding_all rfl)
        have z := k₃ W₃ tk (.int ((nothingOf T p).length : Int) t') (.refl _) (.int _ _)
        rw [← hs₃] at z
        exact z
      · exact ex_lenL (H.builtin (hd := by decide) rfl rfl rfl (by rfl) N.nl (by decide) (by decide +kernel)) rfl (ex_var (h1 := by decide) (h2 := by decide) rfl (nm_free (c := L + 7) (IsCell.le l icN) (.inl (by rfl)) (by rfl)) (inn.le l)).sl (by rw [List.length_map]; lia) (by rw [List.length_map])
    · rw [List.filter_eq_nil_iff.mpr (fun _ _ => by decide)]; rfl
  · have F₁ := F.up k₁
    refine tst_cmp_int (hm := by with_unfolding_all rfl) (a := (nothingOf T p).length) (b := p ^ (3 - rank)) (ex_lenL (H.builtin (hd := by decide) rfl rfl rfl (by rfl) N.nl (by decide) (by decide +kernel)) rfl (ex_var (h1 := by decide) (h2 := by decide) rfl (F₁.nmC (by rfl) (by rfl) (by first | exact lo1 | exact lo2 | exact lo3 | exact lo4 | exact lo5 | exact lo6 | exact lo7 | exact lo8 | exact lo9) cn) (inn.le k₁)).sl (by rw [List.length_map]; lia) (by rw [List.length_map])) ?_ fun t u s Q E h => PyProof.Rows.ne_int (by
      rw [Knul, bne_self_eq_false]; exact h)
    refine ex_binop_int (a := p) (b := 3 - (rank : Int)) (ex_var (h1 := by decide) (h2 := by decide) rfl (F₁.nmC (by rfl) (by rfl) (by first | exact lo1 | exact lo2 | exact lo3 | exact lo4 | exact lo5 | exact lo6 | exact lo7 | exact lo8 | exact lo9) cp) (ip.le k₁)) (ex_binop_int (a := 3) (b := (rank : Int)) ex_int (ex_var (h1 := by decide) (h2 := by decide) rfl (F₁.nmC (by rfl) (by rfl) (by first | exact lo1 | exact lo2 | exact lo3 | exact lo4 | exact lo5 | exact lo6 | exact lo7 | exact lo8 | exact lo9) cr) (ir.le k₁)) (fun t u s Q E nl h => P.sub_int h) H.nl) (fun t u s Q E nl h => pow_int_small (by lia) (by lia) (by omega) (by
      have e : (3 - (rank : Int)).toNat = 3 - rank := by lia
      rw [e]; exact h)) H.nl
  · have F₂ := F.up (k₁.trans k₂)
    refine tst_cmp_int (hm := by with_unfolding_all rfl) (a := (madesOf T p (everyOf p)).length) (b := p ^ rank) (ex_lenL (H.builtin (hd := by decide) rfl rfl rfl (by rfl) N.nl (by decide) (by decide +kernel)) rfl (ex_val (h1 := by decide) (h2 := by decide) rfl (F₂.nm (by rfl) b3) fun W' l => (u.up ((k₁.trans k₂).trans l)).sl) (by rw [List.length_map]; lia) (by rw [List.length_map])) ?_ fun t u s Q E h => PyProof.Rows.ne_int (by
      rw [Kimg, bne_self_eq_false]; exact h)
    refine ex_binop_int (a := p) (b := (rank : Int)) (ex_var (h1 := by decide) (h2 := by decide) rfl (F₂.nmC (by rfl) (by rfl) (by first | exact lo1 | exact lo2 | exact lo3 | exact lo4 | exact lo5 | exact lo6 | exact lo7 | exact lo8 | exact lo9) cp) (ip.le (k₁.trans k₂))) (ex_var (h1 := by decide) (h2 := by decide) rfl (F₂.nmC (by rfl) (by rfl) (by first | exact lo1 | exact lo2 | exact lo3 | exact lo4 | exact lo5 | exact lo6 | exact lo7 | exact lo8 | exact lo9) cr) (ir.le (k₁.trans k₂))) (fun t u s Q E nl h => pow_int_small (by lia) (by lia) (by lia) (by
      rw [Int.toNat_natCast]; exact h)) H.nl
  · have F₃ := F.up ((k₁.trans k₂).trans k₃)
    have S : ∀ W', V₃.Le W' → SL ((madesOf T p (everyOf p)).map TI) W' (.ref D) := fun W' l => (u.up (((k₁.trans k₂).trans k₃).trans l)).sl
    refine tst_nec (hm := by with_unfolding_all rfl) (x := .list ((madesOf T p (everyOf p)).map TI)) (y := .list ((madesOf T p (everyOf p)).map TI)) (Ev.shl (ex_val (h1 := by decide) (h2 := by decide) rfl (F₃.nm (by rfl) b3) S)) (Ev.shl (EvN.sl (evn_call1 (f := .builtin "sorted") (P₁ := SL ((madesOf T p (everyOf p)).map TI)) (H.builtin (hd := by decide) rfl rfl rfl (by rfl) N.no (by decide) (by decide +kernel)) rfl rfl (ex_val (h1 := by decide) (h2 := by decide) rfl (F₃.nm (by rfl) b3) S) fun W₁ a l₁ p₁ => ?_))) (pl_shaped (pl_LTI _) (by decide)) (pl_shaped (pl_LTI _) (by decide)) un (by rw [eqv_refl (pl_LTI _)]; rfl)
    exact evn_sortedT p₁ (by omega) K.lenM (Nat.one_le_iff_ne_zero.mpr fun q => hT1 (List.length_eq_zero_iff.mp q)) K.srt
  -- the second
  have F₁ := F.up l₁
  refine st_skip rfl (tst_and (b := false) (c := true) ?_ fun h => by cases h) fun W₂ tk₂ l₂ => ?_
  · have icL := F₁.ic (c := L + 4) (by first | exact lo1 | exact lo2 | exact lo3 | exact lo4 | exact lo5 | exact lo6 | exact lo7 | exact lo8 | exact lo9) cl'
    have icP := F₁.ic (c := L + 1) (by first | exact lo1 | exact lo2 | exact lo3 | exact lo4 | exact lo5 | exact lo6 | exact lo7 | exact lo8 | exact lo9) cp
    have hlb := leftOf_bd hp hT
    refine tst_nec (hm := by with_unfolding_all rfl) (x := .list ((nothingOf T p).map TI)) (y := .list ((nothingOf T p).map TI)) (EvN.frz (EvN.cast (evn_comp1 (xs := (everyOf p).map TI) (onTB (zeroB (leftOf p 3 T) p)) id (fun _ => rfl) (by with_unfolding_all rfl) rfl (by decide) (fun C => ⟨[], .nil (fun _ _ => rfl) (fun _ => rfl), .loc (by rfl) (by rfl) (List.mem_singleton_self _)⟩)
      ((ex_var (h1 := by decide) (h2 := by decide) rfl (F₁.nm (by rfl) cve) (ive.le l₁)).srcV hA.hh) (sz _ (by rw [List.length_map]; lia)) fun y hy W' C v l iv nm => ?_) ?_)).sh (ex_var (h1 := by decide) (h2 := by decide) rfl (F₁.nmC (by rfl) (by rfl) (by first | exact lo1 | exact lo2 | exact lo3 | exact lo4 | exact lo5 | exact lo6 | exact lo7 | exact lo8 | exact lo9) cn) (inn.le l₁)).sh (pl_shaped (pl_LTI _) (by decide)) (pl_shaped (pl_LTI _) (by decide)) un (by rw [eqv_refl (pl_LTI _)]; rfl)
    · obtain ⟨r, hr, rfl⟩ := List.mem_map.mp hy
      refine ⟨?_, fun _ => ex_var (h1 := by decide) (h2 := by decide) rfl nm iv⟩
      rw [onTB_TI]
      exact tsts_one (tst_zero H N hA rfl rfl rfl (by rfl) (by rfl) rfl rfl (ex_var (h1 := by decide) (h2 := by decide) rfl (nm_free (c := L + 4) (IsCell.le l icL) (.inl (by rfl)) (by rfl)) ((il.le l₁).le l)) (ex_var (h1 := by decide) (h2 := by decide) rfl nm iv) (ex_var (h1 := by decide) (h2 := by decide) rfl (nm_free (c := L + 1) (IsCell.le l icP) (.inl (by rfl)) (by rfl)) ((ip.le l₁).le l)) hp hlb.1 hlb.2 (everyOf_bd r hr))
    · rw [filter_TI, List.map_id, K.ker]
  exact k W₂ tk₂ (F₁.up l₂) (I.keep (l₁.trans l₂).fz rfl rfl rfl rfl rfl rfl)
end
end Mine
namespace Mine
section
variable {g : Heap} {prog : Program} {w : World} {A : Around} {B B' W W' : Wld g} {env : Env} {own : List Addr} {m : Str → Option Value} {cm : Addr → Option Value} {s : Shared} {rest : List Stmt} {Q : Flow → Shared → Prop} {E : Value → Shared → Prop}
variable {mg mb : Str → Option Value} {L fa : Addr} {cd : Value}
theorem flat_nil : ∀ (l l' : List PyData), (l.flatMap fun _ => l'.flatMap fun _ => ([] : List PyData)) = []
  | [], _ => rfl
  | x :: l, l' => by
    rw [List.flatMap_cons, flat_nil l l', List.append_nil]
    induction l' with
    | nil => rfl
    | cons y l' ih => rw [List.flatMap_cons, ih]; rfl
theorem flat_nil1 : ∀ (l : List PyData), (l.flatMap fun _ => ([] : List PyData)) = []
  | [] => rfl
  | x :: l => by rw [List.flatMap_cons, flat_nil1 l]; rfl
theorem rng_small {n : Nat} (h : n ≤ 3) : Builtin.Range.small 0 n 1 = true ∧ Builtin.Range.rangeSize 0 n 1 = (n : Int) := by
  have : n = 0 ∨ n = 1 ∨ n = 2 ∨ n = 3 := by lia
  rcases this with rfl | rfl | rfl | rfl <;> decide
theorem law_C2 {p : Int} {T : List (List Int)} (H : Gd g mg mb) (N : LawF g mg) (hA : Ok 20 A) (hs : s.heap = W.h) (F : FS B W (lawEnv L fa cd) (lawOwn L) m cm) (hp : PrimeOk p) (hT : Bd p 3 T) (K : LawOk T p) (I : LS L p T W m cm)
    (k : ∀ (W' : Wld g) cm' tk, FS B W' (lawEnv L fa cd) (lawOwn L) m cm' → LS L p T W' m cm' → wpAny (model prog w) A (execs (lawB 14) (lawEnv L fa cd)) Q E { s with heap := W'.h, toks := tk }) :
    wpAny (model prog w) A (execs (lawB 12) (lawEnv L fa cd)) Q E s := by
  refine wp_norm hs ?_
  have hpp := hp.pos
  have sz : ∀ n, n ≤ 1000 → n ≤ sizeLine := fun n h => Nat.le_trans h (by decide)
  obtain ⟨vr, cr, ir⟩ := I.rk
  obtain ⟨vl, cl', il⟩ := I.lf
  have hlb := leftOf_bd hp hT
  have un : A.units + 64 < cLine := by have := hA.un; lia
  have hb1 := K.beg1
  have hb2 := K.beg2
  have hpv := K.piv
  generalize hLf : leftOf p 3 T = Lf at il ir hlb hb1 hb2 hpv
  have hr3 := hlb.2
  -- begins
  refine st_assignC (c := L + 9) (P := V (LI (beginsOf Lf))) F rfl ?_ rfl (by rfl) (by rfl) (by first | exact lo1 | exact lo2 | exact lo3 | exact lo4 | exact lo5 | exact lo6 | exact lo7 | exact lo8 | exact lo9) (by with_unfolding_all rfl) fun W₁ W₂ vb tk₂ l₁ ib F₂ s₂ hF₂ => ?_
  · refine EvN.frz (EvN.cast (evn_map (xs := Lf.map LI) (onL fun r => .int ((begOf r).headD 0)) (fun _ => rfl) (by with_unfolding_all rfl) rfl (by decide) (fun C => ⟨[C + 1], .one "row" (fun _ _ => rfl) (fun _ => rfl), .cel (C + 1) (by rfl) (by rfl) (List.mem_singleton_self _)⟩)
      ((ex_var (h1 := by decide) (h2 := by decide) rfl (F.nmC (by rfl) (by rfl) (by first | exact lo1 | exact lo2 | exact lo3 | exact lo4 | exact lo5 | exact lo6 | exact lo7 | exact lo8 | exact lo9) cl') il).srcV hA.hh) (sz _ (by rw [List.length_map]; lia)) fun y hy W' C v l iv nm => ?_) ?_)
    · obtain ⟨r, hr, rfl⟩ := List.mem_map.mp hy
      rw [onL_LI]
      have irow : W'.h.IsCell (C + 1) (some v) := nm.cell (by rfl) (by rfl)
      have hrl := (hlb.1 r hr).1
      refine ex_item (hsub := by intro _ _; with_unfolding_all rfl) (xs := (begOf r).map .int) (k := 0) (EvN.sl (EvN.cast (evn_comp1 (xs := rng 0 3) (onB fun k => r.getD k.toNat 0 != 0) id (fun _ => rfl) (by with_unfolding_all rfl) rfl (by decide) (fun C => ⟨[], .nil (fun _ _ => rfl) (fun _ => rfl), .loc (by rfl) (by rfl) (by simp)⟩)
        (Ev.srcR (n := 3) hA.hh (ex_call1 (f := .type "range") (H.builtin (hd := by decide) rfl rfl rfl (by rfl) N.ng (by decide) (by decide +kernel)) rfl rfl ex_int (fun W₁ a l₁ p₁ => ev_range1I p₁)) (by decide) (by decide)) (by rw [rng_len]; decide) fun yk hyk W₂ C₂ vk l₂ ik nmk => ?_) ?_)) ex_int (by decide) (by decide) ?_
      · obtain ⟨kk, rfl, h0, h3⟩ := mem_rng hyk
        refine ⟨?_, fun _ => ex_var (h1 := by decide) (h2 := by decide) rfl nmk ik⟩
        refine tsts_one (tst_cmp_int (hm := by with_unfolding_all rfl) (a := r.getD kk.toNat 0) (b := 0) ?_ ex_int fun t u s Q E h => P.ne_int h)
        refine ex_item (hsub := by intro _ _; with_unfolding_all rfl) (xs := r.map .int) (k := kk) (ex_var (h1 := by decide) (h2 := by decide) rfl (nm_free (c := C + 1) (IsCell.le l₂ irow) (.inl (by rfl)) (by rfl)) (iv.le l₂)).sl (ex_var (h1 := by decide) (h2 := by decide) rfl nmk ik) h0 (by lia) ?_
        rw [List.getElem?_map, List.getD_eq_getElem?_getD, List.getElem?_eq_getElem (by lia)]; rfl
      · rw [List.map_id, rng_ints, filter_int]; rfl
      · cases hb : begOf r with
        | nil => exact absurd hb (hb1 r hr)
        | cons z zs => rfl
    · unfold beginsOf
      rw [List.map_map, List.map_map]
      exact List.map_congr_left fun r _ => onL_LI _ r
  have ib₂ := ib.mono s₂.so.fz
  have il₂ := (il.le l₁).mono s₂.so.fz
  have ir₂ := (ir.le l₁).mono s₂.so.fz
  have bl : (beginsOf Lf).length = Lf.length := by unfold beginsOf; rw [List.length_map]
  have cl₂ : upd cm (L + 9) vb (L + 4) = some vl := (upd_ne (ad_ne (by decide))).trans cl'
  have cr₂ : upd cm (L + 9) vb (L + 5) = some vr := (upd_ne (ad_ne (by decide))).trans cr
  refine st_skip rfl (tst_or2 (b := false) (c := false) ?_ fun _ V₁ k₁ => all_or_cons (b := false) (c := false) ?_ fun _ V₂ k₂ => all_or_nil) fun W₃ tk₃ l₃ => ?_
  · refine tst_nec (hm := by with_unfolding_all rfl) (x := LI (beginsOf Lf)) (y := LI (beginsOf Lf)) (ex_var (h1 := by decide) (h2 := by decide) rfl (F₂.nmC (by rfl) (by rfl) (by first | exact lo1 | exact lo2 | exact lo3 | exact lo4 | exact lo5 | exact lo6 | exact lo7 | exact lo8 | exact lo9) upd_at) ib₂).sh (Ev.shl (EvN.sl (evn_call1 (f := .builtin "sorted") (P₁ := SL ((beginsOf Lf).map .int)) (H.builtin (hd := by decide) rfl rfl rfl (by rfl) N.no (by decide) (by decide +kernel)) rfl rfl (ex_var (h1 := by decide) (h2 := by decide) rfl (F₂.nmC (by rfl) (by rfl) (by first | exact lo1 | exact lo2 | exact lo3 | exact lo4 | exact lo5 | exact lo6 | exact lo7 | exact lo8 | exact lo9) upd_at) ib₂).sl fun W₁ a l₁ p₁ => evn_sortedN p₁ (by lia) (by rw [bl]; exact hb2)))) (pl_shaped (pl_LI _) (by decide)) (pl_shaped (pl_LI _) (by decide)) un (by rw [eqv_refl (pl_LI _)]; rfl)
  · have F₃ := F₂.up k₁
    have icL := F₃.ic (c := L + 4) (by first | exact lo1 | exact lo2 | exact lo3 | exact lo4 | exact lo5 | exact lo6 | exact lo7 | exact lo8 | exact lo9) cl₂
    have icR := F₃.ic (c := L + 5) (by first | exact lo1 | exact lo2 | exact lo3 | exact lo4 | exact lo5 | exact lo6 | exact lo7 | exact lo8 | exact lo9) cr₂
    have icB := F₃.ic (c := L + 9) (by first | exact lo1 | exact lo2 | exact lo3 | exact lo4 | exact lo5 | exact lo6 | exact lo7 | exact lo8 | exact lo9) upd_at
    have rs := rng_small hr3
    have erange : ∀ {cenv : Env} {W' : Wld g} {np xp cpos : Pos}, V₁.Le W' → cenv.scope.kind = .function → cenv.globals = mainGlobals → cenv.builtins = builtinsNs → cenv.kindOf "range" = some .globalImplicit → cenv.kindOf "rank" = some .cell → cenv.cells.lookup ("rank" : Str) = some (L + 5) →
        starEach [.Name "rank" xp] cenv = [(false, eval (.Name "rank" xp) cenv)] → Ex prog w A cenv (.Call (.Name "range" np) [.Name "rank" xp] [] cpos) W' (Rg 0 Lf.length) := fun l ek eg eb kr kp hc hst =>
      ex_call1 (f := .type "range") (P₁ := V (.int Lf.length)) (P := Rg 0 Lf.length) (H.builtin (hd := by decide) ek eg eb kr N.ng (by decide) (by decide +kernel)) rfl hst (ex_var (h1 := by decide) (h2 := by decide) ek (nm_free (c := L + 5) (IsCell.le l icR) (.inl kp) hc) ((ir₂.le k₁).le l)) fun W₁ a l₁ p₁ => ev_range1I p₁
    refine tst_nec (hm := by with_unfolding_all rfl) (x := .list []) (y := .list []) (EvN.frz (EvN.cast (comp_gen (vs := ["j", "k"]) (xs := rng 0 Lf.length) (fun j => (rng 0 Lf.length).flatMap fun k => []) _ rfl (fun _ => rfl) (by with_unfolding_all rfl) rfl (by decide) (fun C => ⟨[], .nil (fun _ _ => rfl) (fun _ => rfl), .loc (by rfl) (by rfl) (by simp)⟩)
      (Ev.srcR (n := Lf.length) hA.hh (erange (.refl _) rfl rfl rfl (by rfl) (by rfl) (by rfl) rfl) rs.1 rs.2) (fun I D C => compTurn_mid rfl rfl) ?_) (flat_nil _ _))).sh (EvN.frz (ex_list .nil rfl (by decide))).sh (by decide) (by decide) un (by rfl)
    intro W₀ W' own' I' D C i ya va ys m' cm' s' E' l₀ hOwn hya hys hva C' nma hs'
    have own0 : own' = [] := by
      cases hOwn with
      | nil => rfl
      | one x h h' => exact absurd (h 0 []) (by simp; intro q; cases q)
    subst own0
    have l5 : V₁.Le W' := l₀.trans C'.le
    refine turn_mid (vs := ["j", "k"]) (vs' := ["k"]) (a := 0) (b := Lf.length) (n := Lf.length) (fun k => []) _ hA.hh hs' C' rfl (fun _ => rfl) rfl rfl (erange l5 rfl rfl rfl (by rfl) (by rfl) (by rfl) rfl) rs.1 rs.2 (.loc (by rfl) (by rfl) (by first | exact m5_1 | exact m5_2 | exact m5_3 | exact m5_4 | exact m5_5 | exact m3_1 | exact m3_2 | exact m3_3 | exact m2_1 | exact m2_2 | exact List.mem_singleton_self _ | simp)) (by simp) (fun I => compTurn_last rfl rfl) ?_
    intro W'' I₂ j yb vb' ys₂ m₂ cm₂ s₂' E₂ hFF hyb hvb hys₂ C₂ ag₂ nmb hs₂'
    obtain ⟨ka, rfl, ha0, ha1⟩ := mem_rng (List.mem_of_getElem? hya)
    obtain ⟨kb, rfl, hb0, hb1'⟩ := mem_rng (List.mem_of_getElem? hyb)
    obtain ⟨ta, rfl⟩ := IsV.intI hva
    obtain ⟨tb, rfl⟩ := IsV.intI hvb
    have ea : m₂ "j" = some (.int ka ta) := (ag₂ _ (by simp; decide)).trans (nma.inCI C' (by rfl))
    have l6 : V₁.Le W'' := l₀.trans C₂.le
    obtain ⟨j', rfl⟩ := Int.eq_ofNat_of_zero_le ha0
    obtain ⟨k', rfl⟩ := Int.eq_ofNat_of_zero_le hb0
    have hj : j' < Lf.length := by lia
    have hk : k' < Lf.length := by lia
    have ys0 : ys₂ = [] := by
      rw [hys₂, hys, flat_nil, flat_nil1]; rfl
    have key := hpv j' k' hj hk
    have hhd : 0 ≤ (beginsOf Lf).getD k' 0 ∧ (beginsOf Lf).getD k' 0 < 3 := by
      unfold beginsOf
      rw [List.getD_eq_getElem?_getD, List.getElem?_map, List.getElem?_eq_getElem hk]
      exact headD_bd
    have hrl : (Lf.getD j' []).length = 3 := by
      rw [List.getD_eq_getElem?_getD, List.getElem?_eq_getElem hj]
      exact (hlb.1 _ (List.getElem_mem hj)).1
    have nmj : Nm W''.h _ "j" (.int (j' : Int) ta) := .inl ⟨by rfl, m₂, C₂.loc, ea⟩
    refine turn_emit (b := false) (z := .none) hs₂' C₂ ?_ (fun h => by cases h) (by rw [ys0]; exact Nat.zero_le _)
    refine tsts_one (tst_cmp_int (hm := by with_unfolding_all rfl) (a := (Lf.getD j' []).getD ((beginsOf Lf).getD k' 0).toNat 0) (b := if j' = k' then 1 else 0) ?_ ?_ fun t u s Q E h => PyProof.Rows.ne_int (by
      rw [key, bne_self_eq_false]; exact h))
    · refine ex_item (hsub := by intro _ _; with_unfolding_all rfl) (xs := (Lf.getD j' []).map .int) (k := (beginsOf Lf).getD k' 0) (ex_item (hsub := by intro _ _; with_unfolding_all rfl) (xs := Lf.map LI) (x := LI (Lf.getD j' [])) (k := j') (ex_var (h1 := by decide) (h2 := by decide) rfl (nm_free (c := L + 4) (IsCell.le l6 icL) (.inl (by rfl)) (by rfl)) ((il₂.le k₁).le l6)).sl (ex_var (h1 := by decide) (h2 := by decide) rfl nmj (.int _ ta)) (by omega) (by lia) ?_).sl
        (ex_item (hsub := by intro _ _; with_unfolding_all rfl) (xs := (beginsOf Lf).map .int) (k := k') (ex_var (h1 := by decide) (h2 := by decide) rfl (nm_free (c := L + 9) (IsCell.le l6 icB) (.inl (by rfl)) (by rfl)) ((ib₂.le k₁).le l6)).sl (ex_var (h1 := by decide) (h2 := by decide) rfl nmb (.int _ tb)) (by omega) (by lia) ?_) hhd.1 (by lia) ?_
      · rw [List.getElem?_map, List.getD_eq_getElem?_getD, Int.toNat_natCast, List.getElem?_eq_getElem hj]; rfl
      · rw [List.getElem?_map, List.getD_eq_getElem?_getD, Int.toNat_natCast, List.getElem?_eq_getElem (by rw [bl]; exact hk)]; rfl
      · generalize Lf.getD j' [] = rr at hrl
        generalize (beginsOf Lf).getD k' 0 = bb at hhd
        rw [List.getElem?_map, List.getD_eq_getElem?_getD, List.getElem?_eq_getElem (by lia)]; rfl
    · have e : (if j' = k' then (1 : Int) else 0) = (if ((j' : Int) == (k' : Int)) = true then 1 else 0) := by
        by_cases h : j' = k'
        · subst h; simp
        · rw [if_neg h, if_neg (by simpa using fun q : (j' : Int) = k' => h (by lia))]
      rw [e]
      exact ex_call1 (f := .type "int") (P₁ := V (.bool ((j' : Int) == (k' : Int)))) (H.builtin (hd := by decide) rfl rfl rfl (by rfl) N.ni (by decide) (by decide +kernel)) rfl rfl (ex_cmp_int (hm := by with_unfolding_all rfl) (a := (j' : Int)) (b := (k' : Int)) (ex_var (h1 := by decide) (h2 := by decide) rfl nmj (.int _ ta)) (ex_var (h1 := by decide) (h2 := by decide) rfl nmb (.int _ tb)) fun t u s Q E h => wpAny_eq_int h) fun W₁ a l₁ p₁ => by cases p₁; exact ev_intOf
  have fz : ∀ a o, W.F a = some o → W₃.F a = some o := fun a o e => l₃.fz a o (s₂.so.fz a o (l₁.fz a o e))
  exact k W₃ _ tk₃ (F₂.up l₃) (I.keep fz rfl (upd_ne (ad_ne (by decide))) (upd_ne (ad_ne (by decide))) (upd_ne (ad_ne (by decide))) (upd_ne (ad_ne (by decide))) (upd_ne (ad_ne (by decide))))
end
end Mine
namespace Mine
section
variable {g : Heap} {prog : Program} {w : World} {A : Around} {B B' W W' : Wld g} {env : Env} {own : List Addr} {m : Str → Option Value} {cm : Addr → Option Value} {s : Shared} {rest : List Stmt} {Q : Flow → Shared → Prop} {E : Value → Shared → Prop}
variable {mg mb : Str → Option Value} {L fa : Addr} {cd : Value}
theorem tst_notinc {l r : Expr} {pos : Pos} {x : PyData} {ys : List PyData} {c : Bool} (h1 : Ex prog w A env l W (Sh x)) (h2 : Ex prog w A env r W (Sh (.list ys))) (sx : SeqAt.shaped x = true) (sy : SeqAt.shaped (.list ys) = true) (hu : A.units + 128 < cLine) (e : (!ys.any fun y => PyData.eqv y x) = c)
    (hm : behindInMarks .NotIn r = false) : Tst prog w A env (.Compare l [.NotIn] [r] pos) W c := e ▸ tst_notin h1 h2 sx sy hu hm
theorem any_mem {N : List (List Int)} {b : List Int} (h : b ∈ N) : (!(N.map TI).any fun y => PyData.eqv y (TI b)) = false := by
  have : ((N.map TI).any fun y => PyData.eqv y (TI b)) = true := List.any_eq_true.mpr ⟨TI b, List.mem_map.mpr ⟨b, h, rfl⟩, eqv_refl (pl_TI b)⟩
  rw [this]; rfl
theorem transOf_bd {p : Int} (hp : PrimeOk p) {T : List (List Int)} (hT : Bd p 3 T) : Bd p T.length (transOf T) := by
  intro r hr
  obtain ⟨k, _, rfl⟩ := List.mem_map.mp hr
  refine ⟨List.length_map .., fun x hx => ?_⟩
  obtain ⟨r', hr', rfl⟩ := List.mem_map.mp hx
  exact getD_bd hp (hT r' hr').2 k
theorem law_D1 {p : Int} {T : List (List Int)} (H : Gd g mg mb) (N : LawF g mg) (hA : Ok 20 A) (hs : s.heap = W.h) (F : FS B W (lawEnv L fa cd) (lawOwn L) m cm) (hp : PrimeOk p) (hT : Bd p 3 T) (hT1 : T ≠ []) (hT3 : T.length ≤ 3) (K : LawOk T p) (I : LS L p T W m cm)
    (k : ∀ (W' : Wld g) m' tk, FS B W' (lawEnv L fa cd) (lawOwn L) m' cm → LS L p T W' m' cm → wpAny (model prog w) A (execs (lawB 16) (lawEnv L fa cd)) Q E { s with heap := W'.h, toks := tk }) :
    wpAny (model prog w) A (execs (lawB 14) (lawEnv L fa cd)) Q E s := by
  refine wp_norm hs ?_
  have hpp := hp.pos
  have sz : ∀ n, n ≤ 1000 → n ≤ sizeLine := fun n h => Nat.le_trans h (by decide)
  obtain ⟨vp, cp, ip⟩ := I.pr
  obtain ⟨vt, ct, it⟩ := I.tb
  obtain ⟨vl, cl', il⟩ := I.lf
  obtain ⟨vr, cr, ir⟩ := I.rk
  have D : DmOk prog w g (.ref N.a7) := dm_ok H N.toNums
  have un : A.units + 64 < cLine := by have := hA.un; lia
  have icT := F.ic (c := L + 3) (by first | exact lo1 | exact lo2 | exact lo3 | exact lo4 | exact lo5 | exact lo6 | exact lo7 | exact lo8 | exact lo9) ct
  have htb := transOf_bd hp hT
  have htl := (leftOf_bd hp htb).2
  -- turned
  refine st_assign (P := V (.list ((leftOf p T.length (transOf T)).map LI))) F rfl ?_ (by rfl) (by rfl) (by with_unfolding_all rfl) fun W₁ W₂ vu tk₂ l₁ iu F₂ s₂ hF₂ => ?_
  · refine ex_callF2 (P₁ := V (.list ((transOf T).map LI))) (P₂ := V (.int p)) (ex_global (hd := by decide) rfl rfl (by rfl) H.G N.mL) N.fL.fn rfl (EvN.frz (EvN.cast (evn_map (xs := rng 0 3) (onI fun k => LI (T.map fun r => r.getD k.toNat 0)) (fun _ => rfl) (by with_unfolding_all rfl) rfl (by decide) (fun C => ⟨[C + 1], .one "k" (fun _ _ => rfl) (fun _ => rfl), .cel (C + 1) (by rfl) (by rfl) (List.mem_singleton_self _)⟩)
      (Ev.srcR (n := 3) hA.hh (ex_call1 (f := .type "range") (H.builtin (hd := by decide) rfl rfl rfl (by rfl) N.ng (by decide) (by decide +kernel)) rfl rfl ex_int (fun W₁ a l₁ p₁ => ev_range1I p₁)) (by decide) (by decide)) (by rw [rng_len]; decide) fun y hy W' C v l iv nm => ?_) ?_)) (ex_var (h1 := by decide) (h2 := by decide) rfl (F.nmC (by rfl) (by rfl) (by first | exact lo1 | exact lo2 | exact lo3 | exact lo4 | exact lo5 | exact lo6 | exact lo7 | exact lo8 | exact lo9) cp) ip) fun V₁ V₂ a b k₁ k₂ p₁ p₂ => ?_
    · obtain ⟨kk, rfl, h0, h3⟩ := mem_rng hy
      have ik : W'.h.IsCell (C + 1) (some v) := nm.cell (by rfl) (by rfl)
      refine EvN.frz (EvN.cast (evn_map (xs := T.map LI) (onL fun r => .int (r.getD kk.toNat 0)) (fun _ => rfl) (by with_unfolding_all rfl) rfl (by decide) (fun C => ⟨[], .nil (fun _ _ => rfl) (fun _ => rfl), .loc (by rfl) (by rfl) (List.mem_singleton_self _)⟩)
        ((ex_var (h1 := by decide) (h2 := by decide) rfl (nm_free (c := L + 3) (IsCell.le l icT) (.inl (by rfl)) (by rfl)) (it.le l)).srcV hA.hh) (sz _ (by rw [List.length_map]; lia)) fun y hy W₂ C₂ v₂ l₂ iv₂ nm₂ => ?_) ?_)
      · obtain ⟨r, hr, rfl⟩ := List.mem_map.mp hy
        rw [onL_LI]
        have hrl := (hT r hr).1
        refine ex_item (hsub := by intro _ _; with_unfolding_all rfl) (xs := r.map .int) (k := kk) (ex_var (h1 := by decide) (h2 := by decide) rfl nm₂ iv₂).sl (ex_var (h1 := by decide) (h2 := by decide) rfl (nm_free (c := C + 1) (IsCell.le l₂ ik) (.inl (by rfl)) (by rfl)) (iv.le l₂)) h0 (by lia) ?_
        rw [List.getElem?_map, List.getD_eq_getElem?_getD, List.getElem?_eq_getElem (by lia)]; rfl
      · rw [List.map_map, List.map_map]
        exact List.map_congr_left fun r _ => onL_LI _ r
    · rw [rng_map]
      unfold transOf
      rw [List.map_map]
      refine List.map_congr_left fun k _ => ?_
      show LI _ = LI _
      rw [Int.zero_add, Int.toNat_natCast]
    · exact left_call H (hA.le (by decide)) D N.fL (p₁.le k₂) p₂ hp htb (by unfold transOf; intro q; cases q) (by unfold transOf; rw [List.length_map]; decide) hT3 N.m7 N.nli N.nl N.ng
  have iu₂ := iu.mono s₂.so.fz
  have fz : ∀ a o, W.F a = some o → W₂.F a = some o := fun a o e => s₂.so.fz a o (l₁.fz a o e)
  refine st_skip rfl (tst_or2 (b := false) (c := false) ?_ fun _ V₁ k₁ => all_or_cons (b := false) (c := false) ?_ fun _ V₂ k₂ => all_or_cons (b := false) (c := false) ?_ fun _ V₃ k₃ => all_or_nil) fun W₃ tk₃ l₃ => ?_
  · exact tst_isnone (x := .list ((leftOf p T.length (transOf T)).map LI)) (ex_var (h1 := by decide) (h2 := by decide) rfl (F₂.nm (by rfl) upd_at) iu₂)
  · have F₃ := F₂.up k₁
    exact tst_cmp_int (hm := by with_unfolding_all rfl) (a := (leftOf p 3 T).length) (b := (leftOf p 3 T).length) (ex_lenL (H.builtin (hd := by decide) rfl rfl rfl (by rfl) N.nl (by decide) (by decide +kernel)) rfl (ex_var (h1 := by decide) (h2 := by decide) rfl (F₃.nm (by rfl) upd_at) (iu₂.le k₁)).sl (by rw [List.length_map]; lia) (by rw [List.length_map, K.trn])) (ex_var (h1 := by decide) (h2 := by decide) rfl (F₃.nmC (by rfl) (by rfl) (by first | exact lo1 | exact lo2 | exact lo3 | exact lo4 | exact lo5 | exact lo6 | exact lo7 | exact lo8 | exact lo9) cr) ((ir.mono fz).le k₁)) fun t u s Q E h => PyProof.Rows.ne_int (by
      rw [bne_self_eq_false]; exact h)
  · have F₄ := F₂.up (k₁.trans k₂)
    have lk := k₁.trans k₂
    refine tst_nec (hm := by with_unfolding_all rfl) (x := .list ((leftOf p 3 T).map LI)) (y := .list ((leftOf p 3 T).map LI)) ?_ (ex_var (h1 := by decide) (h2 := by decide) rfl (F₄.nmC (by rfl) (by rfl) (by first | exact lo1 | exact lo2 | exact lo3 | exact lo4 | exact lo5 | exact lo6 | exact lo7 | exact lo8 | exact lo9) cl') ((il.mono fz).le lk)).sh (pl_shaped (pl_LLI _) (by decide)) (pl_shaped (pl_LLI _) (by decide)) un (by rw [eqv_refl (pl_LLI _)]; rfl)
    refine Ev.sh (ex_callF2 (P₁ := V (.list (T.reverse.map LI))) (P₂ := V (.int p)) (ex_global (hd := by decide) rfl rfl (by rfl) H.G N.mL) N.fL.fn rfl (EvN.frz (EvN.cast (evn_sliceR (xs := T.map LI) (ex_var (h1 := by decide) (h2 := by decide) rfl (F₄.nmC (by rfl) (by rfl) (by first | exact lo1 | exact lo2 | exact lo3 | exact lo4 | exact lo5 | exact lo6 | exact lo7 | exact lo8 | exact lo9) ct) ((it.mono fz).le lk)).sl (ex_neg ex_int) (sz _ (by rw [List.length_map]; lia))) (by rw [List.map_reverse]))) (ex_var (h1 := by decide) (h2 := by decide) rfl (F₄.nmC (by rfl) (by rfl) (by first | exact lo1 | exact lo2 | exact lo3 | exact lo4 | exact lo5 | exact lo6 | exact lo7 | exact lo8 | exact lo9) cp) ((ip.mono fz).le lk)) fun U₁ U₂ a b j₁ j₂ p₁ p₂ => ?_)
    have z := left_call (nc := 3) H (hA.le (by decide)) D N.fL (p₁.le j₂) p₂ hp (T := T.reverse) (fun r hr => hT r (List.mem_reverse.mp hr)) (by simpa using hT1) (by rw [List.length_reverse]; exact hT3) (by decide) N.m7 N.nli N.nl N.ng
    rw [K.rev] at z
    exact z
  exact k W₃ _ tk₃ (F₂.up l₃) (I.keep (fun a o e => l₃.fz a o (fz a o e)) (upd_ne (by decide)) rfl rfl rfl rfl rfl)

theorem law_D2 {p : Int} {T : List (List Int)} (H : Gd g mg mb) (N : LawF g mg) (hA : Ok 20 A) (hs : s.heap = W.h) (F : FS B W (lawEnv L fa cd) (lawOwn L) m cm) (hp : PrimeOk p) (K : LawOk T p) (I : LS L p T W m cm)
    (k : ∀ (W' : Wld g) tk, B.Le W' → Q (.ret (.bool true)) { s with heap := W'.h, toks := tk }) :
    wpAny (model prog w) A (execs (lawB 16) (lawEnv L fa cd)) Q E s := by
  refine wp_norm hs ?_
  have hpp := hp.pos
  have sz : ∀ n, n ≤ 1000 → n ≤ sizeLine := fun n h => Nat.le_trans h (by decide)
  have hel := everyOf_len hp
  have hN : (nothingOf T p).length ≤ 125 := Nat.le_trans (List.length_filter_le _ _) hel
  have un : A.units + 128 < cLine := by have := hA.un; lia
  obtain ⟨vn, cn, inn⟩ := I.no
  refine st_for (hfold := by intro _; rfl) (c? := some (L + 6)) (xs := (nothingOf T p).map TI) (fun i W m cm => LS L p T W m cm) F rfl rfl (.cel (L + 6) rfl (by rfl) (by rfl) (by first | exact lo1 | exact lo2 | exact lo3 | exact lo4 | exact lo5 | exact lo6 | exact lo7 | exact lo8 | exact lo9)) ((ex_var (h1 := by decide) (h2 := by decide) rfl (F.nmC (by rfl) (by rfl) (by first | exact lo1 | exact lo2 | exact lo3 | exact lo4 | exact lo5 | exact lo6 | exact lo7 | exact lo8 | exact lo9) cn) inn).mono fun W' v l p => srcF_list hA.hh p) ?_ ?_ ?_ ?_
  · exact fun W' l => I.keep l.fz rfl rfl rfl rfl rfl rfl
  · rintro i V₁ V₂ ma ca mb' cb so hm hc LSi
    have c6 : ∀ j, j ≠ 6 → cb (L + j) = ca (L + j) := fun j hj => hc _ (fun q => hj (Nat.add_left_cancel (Option.some.inj q)).symm)
    exact LSi.keep so.fz (hm _ (by decide)) (c6 1 (by decide)) (c6 3 (by decide)) (c6 4 (by decide)) (c6 5 (by decide)) (c6 7 (by decide))
  · rintro i y vy V₀ m₀ cm₀ tk₀ E₀ Q₀ hy iy FV I₀ nmy hQ
    rw [List.getElem?_map] at hy
    obtain ⟨r, hr, rfl⟩ := Option.map_eq_some_iff.mp hy
    have hrN := List.mem_of_getElem? hr
    have hrm := everyOf_bd r ((List.mem_filter.mp hrN).1)
    obtain ⟨vp, cp, ip⟩ := I₀.pr
    obtain ⟨vn, cn, inn⟩ := I₀.no
    have icR : V₀.h.IsCell (L + 6) (some vy) := nmy.cell (by rfl) (by rfl)
    have icN := FV.ic (c := L + 7) (by first | exact lo1 | exact lo2 | exact lo3 | exact lo4 | exact lo5 | exact lo6 | exact lo7 | exact lo8 | exact lo9) cn
    have icP := FV.ic (c := L + 1) (by first | exact lo1 | exact lo2 | exact lo3 | exact lo4 | exact lo5 | exact lo6 | exact lo7 | exact lo8 | exact lo9) cp
    have hN1 : (nothingOf T p).length ≠ 0 := fun q => by rw [List.length_eq_zero_iff.mp q] at hrN; cases hrN
    generalize hla : (nothingOf T p).getLastD [] = la
    have hget : (nothingOf T p)[(nothingOf T p).length - 1]? = some la := by
      rw [← hla, List.getLastD_eq_getLast?, List.getLast?_eq_getElem?, List.getElem?_eq_getElem (by lia)]; rfl
    have hlam := everyOf_bd la ((List.mem_filter.mp (List.mem_of_getElem? hget)).1)
    have hc1 := K.clo1 r hrN
    rw [hla] at hc1
    -- both
    refine st_assign (P := V (TI (bothOf p r la))) FV rfl ?_ (by rfl) (by rfl) (by with_unfolding_all rfl) fun W₁ W₂ vb tk₂ l₁ ib F₂ s₂ hF₂ => ?_
    · refine ex_call1 (f := .type "tuple") (H.builtin (hd := by decide) rfl rfl rfl (by rfl) N.nt (by decide) (by decide +kernel)) rfl rfl (P₁ := SL ((bothOf p r la).map .int)) (EvN.sl (EvN.cast (evn_map (xs := rng 0 3) (onI fun k => .int ((r.getD k.toNat 0 + la.getD k.toNat 0).fmod p)) (fun _ => rfl) (by with_unfolding_all rfl) rfl (by decide) (fun C => ⟨[], .nil (fun _ _ => rfl) (fun _ => rfl), .loc (by rfl) (by rfl) (List.mem_singleton_self _)⟩)
        (Ev.srcR (n := 3) hA.hh (ex_call1 (f := .type "range") (H.builtin (hd := by decide) rfl rfl rfl (by rfl) N.ng (by decide) (by decide +kernel)) rfl rfl ex_int (fun W₁ a l₁ p₁ => ev_range1I p₁)) (by decide) (by decide)) (by rw [rng_len]; decide) fun y hy W' C v l iv nm => ?_) ?_)) (fun W₁ a l₁ p₁ => ev_tupleOf p₁ (sz _ (by unfold bothOf; simp)))
      · obtain ⟨kk, rfl, h0, h3⟩ := mem_rng hy
        refine ex_binop_int (a := r.getD kk.toNat 0 + la.getD kk.toNat 0) (b := p) (ex_binop_int (a := r.getD kk.toNat 0) (b := la.getD kk.toNat 0) ?_ ?_ (fun t u s Q E nl h => P.add_int h) H.nl) (ex_var (h1 := by decide) (h2 := by decide) rfl (nm_free (c := L + 1) (IsCell.le l icP) (.inl (by rfl)) (by rfl)) (ip.le l)) (fun t u s Q E nl h => mod_int' (by lia) h) H.nl
        · refine ex_itemT (hsub := by intro _ _; with_unfolding_all rfl) (xs := r.map .int) (k := kk) ((ex_var (h1 := by decide) (h2 := by decide) rfl (nm_free (c := L + 6) (IsCell.le l icR) (.inl (by rfl)) (by rfl)) (iy.le l)).mono fun _ _ _ p => IsV.st p) (ex_var (h1 := by decide) (h2 := by decide) rfl nm iv) h0 (by lia) ?_
          have := hrm.1
          rw [List.getElem?_map, List.getD_eq_getElem?_getD, List.getElem?_eq_getElem (by omega)]; rfl
        · refine ex_itemT (hsub := by intro _ _; with_unfolding_all rfl) (xs := la.map .int) (k := kk) ((ex_itemN (hsub := by intro _ _; with_unfolding_all rfl) (xs := (nothingOf T p).map TI) (x := TI la) (k := -1) (ex_var (h1 := by decide) (h2 := by decide) rfl (nm_free (c := L + 7) (IsCell.le l icN) (.inl (by rfl)) (by rfl)) (inn.le l)).sl (ex_neg ex_int) (by decide) (by rw [List.length_map]; lia) (by decide) ?_).mono fun _ _ _ p => IsV.st p) (ex_var (h1 := by decide) (h2 := by decide) rfl nm iv) h0 (by lia) ?_
          · rw [List.length_map, List.getElem?_map]
            have e : (-1 + ((nothingOf T p).length : Int)).toNat = (nothingOf T p).length - 1 := by lia
            rw [e, hget]; rfl
          · have := hlam.1
            rw [List.getElem?_map, List.getD_eq_getElem?_getD, List.getElem?_eq_getElem (by lia)]; rfl
      · rw [rng_map]
        unfold bothOf
        rw [List.map_map]
        refine List.map_congr_left fun k _ => ?_
        show PyData.int _ = PyData.int _
        rw [Int.zero_add, Int.toNat_natCast]
    have ib₂ := ib.mono s₂.so.fz
    have fz : ∀ a o, V₀.F a = some o → W₂.F a = some o := fun a o e => s₂.so.fz a o (l₁.fz a o e)
    have inn₂ := inn.mono fz
    have ip₂ := ip.mono fz
    have iy₂ := iy.mono fz
    have cr₂ : cm₀ (L + 6) = some vy := IsCell.eq (FV.cl (L + 6) (by first | exact lo1 | exact lo2 | exact lo3 | exact lo4 | exact lo5 | exact lo6 | exact lo7 | exact lo8 | exact lo9)).1 icR
    have icP₂ := F₂.ic (c := L + 1) (by first | exact lo1 | exact lo2 | exact lo3 | exact lo4 | exact lo5 | exact lo6 | exact lo7 | exact lo8 | exact lo9) cp
    refine st_skip rfl (tst_or2 (b := false) (c := false) ?_ fun _ V₁ k₁ => all_or_cons (b := false) (c := false) ?_ fun _ V₂ k₂ => all_or_nil) fun W₃ tk₃ l₃ => ?_
    · exact tst_notinc (hm := by with_unfolding_all rfl) (x := TI (bothOf p r la)) (ys := (nothingOf T p).map TI) (ex_var (h1 := by decide) (h2 := by decide) rfl (F₂.nm (by rfl) upd_at) ib₂).sh (ex_var (h1 := by decide) (h2 := by decide) rfl (F₂.nmC (by rfl) (by rfl) (by first | exact lo1 | exact lo2 | exact lo3 | exact lo4 | exact lo5 | exact lo6 | exact lo7 | exact lo8 | exact lo9) cn) inn₂).sh (pl_shaped (pl_TI _) (by decide)) (pl_shaped (pl_LTI _) (by decide)) un (any_mem hc1)
    · have F₃ := F₂.up k₁
      refine tst_notinc (hm := by with_unfolding_all rfl) (x := TI (dblOf p r)) (ys := (nothingOf T p).map TI) ?_ (ex_var (h1 := by decide) (h2 := by decide) rfl (F₃.nmC (by rfl) (by rfl) (by first | exact lo1 | exact lo2 | exact lo3 | exact lo4 | exact lo5 | exact lo6 | exact lo7 | exact lo8 | exact lo9) cn) (inn₂.le k₁)).sh (pl_shaped (pl_TI _) (by decide)) (pl_shaped (pl_LTI _) (by decide)) un (any_mem (K.clo2 r hrN))
      refine Ev.sh (ex_call1 (f := .type "tuple") (H.builtin (hd := by decide) rfl rfl rfl (by rfl) N.nt (by decide) (by decide +kernel)) rfl rfl (P₁ := SL ((dblOf p r).map .int)) (EvN.sl (EvN.cast (evn_map (xs := r.map .int) (onI fun n => .int ((2 * n).fmod p)) (fun _ => rfl) (by with_unfolding_all rfl) rfl (by decide) (fun C => ⟨[], .nil (fun _ _ => rfl) (fun _ => rfl), .loc (by rfl) (by rfl) (List.mem_singleton_self _)⟩)
        (Ev.srcT hA.hh (ex_var (h1 := by decide) (h2 := by decide) rfl (F₃.nmC (by rfl) (by rfl) (by first | exact lo1 | exact lo2 | exact lo3 | exact lo4 | exact lo5 | exact lo6 | exact lo7 | exact lo8 | exact lo9) cr₂) (iy₂.le k₁))) (sz _ (by rw [List.length_map]; have := hrm.1; omega)) fun y hy W' C v l iv nm => ?_) ?_)) (fun W₁ a l₁ p₁ => ev_tupleOf p₁ (sz _ (by unfold dblOf; rw [List.length_map, List.length_map]; have := hrm.1; lia))))
      · obtain ⟨n, hn, rfl⟩ := List.mem_map.mp hy
        have hnb := hrm.2 n hn
        exact ex_binop_int (a := 2 * n) (b := p) (ex_binop_int (a := 2) (b := n) ex_int (ex_var (h1 := by decide) (h2 := by decide) rfl nm iv) (fun t u s Q E nl h => P.mul_int h (IntMulOk.of_left (small_bits (by decide)))) H.nl) (ex_var (h1 := by decide) (h2 := by decide) rfl (nm_free (c := L + 1) (IsCell.le l (IsCell.le k₁ icP₂)) (.inl (by rfl)) (by rfl)) ((ip₂.le k₁).le l)) (fun t u s Q E nl h => mod_int' (by lia) h) H.nl
      · unfold dblOf
        rw [List.map_map, List.map_map]; rfl
    refine wpAny_execs_nil (hQ _ _ ⟨W₃, _, _, _, rfl, F₂.up l₃, I₀.keep (fun a o e => l₃.fz a o (fz a o e)) (upd_ne (by decide)) rfl rfl rfl rfl rfl, ((Hard.of_le l₁).trans s₂.ha).trans (.of_le l₃)⟩)
  · intro W' m' cm' tk F' I'
    exact st_return rfl ex_bool fun W'' v tk l p => by cases p; exact k W'' tk (F'.le.trans l)
end
end Mine
namespace Mine
theorem fm_dvd {p : Int} (hp : PrimeOk p) (x : Int) : p ∣ x - x.fmod p := by
  have h := hp.pos
  rw [Int.fmod_eq_emod_of_nonneg x (by lia), Int.emod_def]
  exact ⟨x / p, by lia⟩
theorem fm_zero {p : Int} (hp : PrimeOk p) (x : Int) : x.fmod p = 0 ↔ p ∣ x := by
  have h := hp.pos
  rw [Int.fmod_eq_emod_of_nonneg x (by lia)]
  exact ⟨Int.dvd_of_emod_eq_zero, Int.emod_eq_zero_of_dvd⟩
theorem fm_self {p : Int} (hp : PrimeOk p) {x : Int} (h0 : 0 ≤ x) (h1 : x < p) : x.fmod p = x := by
  have h := hp.pos
  rw [Int.fmod_eq_emod_of_nonneg x (by lia)]
  exact Int.emod_eq_of_lt h0 h1
theorem fm_eq {p : Int} (hp : PrimeOk p) (x y : Int) : x.fmod p = y.fmod p ↔ p ∣ x - y := by
  have h := hp.pos
  rw [Int.fmod_eq_emod_of_nonneg x (by lia), Int.fmod_eq_emod_of_nonneg y (by lia)]
  exact Int.emod_eq_emod_iff_emod_sub_eq_zero.trans ⟨Int.dvd_of_emod_eq_zero, Int.emod_eq_zero_of_dvd⟩
theorem dot_eq (r v : List Int) : dot r v = r.getD 0 0 * v.getD 0 0 + r.getD 1 0 * v.getD 1 0 + r.getD 2 0 * v.getD 2 0 := by
  unfold dot
  simp only [List.map_cons, List.map_nil, List.sum_cons, List.sum_nil]
  lia
noncomputable def Kz (p : Int) (rows : List (List Int)) (v : List Int) : Prop := ∀ r ∈ rows, p ∣ dot r v

theorem redRow_get {p : Int} (hp : PrimeOk p) {c : Nat} {f r : List Int} (k : Nat) (hf : f.length = r.length) : ∃ q, (redRow p c f r).getD k 0 = r.getD k 0 - r.getD c 0 * f.getD k 0 + p * q := by
  by_cases hk : k < r.length
  · have e : (redRow p c f r).getD k 0 = (r.getD k 0 - r.getD c 0 * f.getD k 0).fmod p := by
      unfold redRow
      rw [List.getD_eq_getElem?_getD, List.getElem?_map, List.getElem?_range hk]; rfl
    obtain ⟨q, hq⟩ := fm_dvd hp (r.getD k 0 - r.getD c 0 * f.getD k 0)
    exact ⟨-q, by rw [e]; grind⟩
  · have e : (redRow p c f r).getD k 0 = 0 := by
      rw [List.getD_eq_getElem?_getD, List.getElem?_eq_none (by rw [(redRow_bd hp).1]; omega)]; rfl
    have e1 : r.getD k 0 = 0 := by rw [List.getD_eq_getElem?_getD, List.getElem?_eq_none (by lia)]; rfl
    have e2 : f.getD k 0 = 0 := by rw [List.getD_eq_getElem?_getD, List.getElem?_eq_none (by lia)]; rfl
    exact ⟨0, by rw [e, e1, e2]; grind⟩
theorem firstOf_get {p : Int} (hp : PrimeOk p) {c : Nat} {g0 : List Int} (k : Nat) : ∃ q, (firstOf p c g0).getD k 0 = inv p (g0.getD c 0) * g0.getD k 0 + p * q := by
  by_cases hk : k < g0.length
  · have e : (firstOf p c g0).getD k 0 = (inv p (g0.getD c 0) * g0.getD k 0).fmod p := by
      unfold firstOf
      rw [List.getD_eq_getElem?_getD, List.getElem?_map, List.getD_eq_getElem?_getD (l := g0) (i := k), List.getElem?_eq_getElem hk]; rfl
    obtain ⟨q, hq⟩ := fm_dvd hp (inv p (g0.getD c 0) * g0.getD k 0)
    exact ⟨-q, by rw [e]; grind⟩
  · have e : (firstOf p c g0).getD k 0 = 0 := by
      rw [List.getD_eq_getElem?_getD, List.getElem?_eq_none (by rw [(firstOf_bd hp).1]; lia)]; rfl
    have e1 : g0.getD k 0 = 0 := by rw [List.getD_eq_getElem?_getD, List.getElem?_eq_none (by lia)]; rfl
    exact ⟨0, by rw [e, e1]; grind⟩
theorem red_dot {p : Int} (hp : PrimeOk p) {c : Nat} {f r v : List Int} (hf : f.length = r.length) : ∃ q, dot (redRow p c f r) v = dot r v - r.getD c 0 * dot f v + p * q := by
  obtain ⟨q0, h0⟩ := redRow_get hp (c := c) 0 hf
  obtain ⟨q1, h1⟩ := redRow_get hp (c := c) 1 hf
  obtain ⟨q2, h2⟩ := redRow_get hp (c := c) 2 hf
  refine ⟨q0 * v.getD 0 0 + q1 * v.getD 1 0 + q2 * v.getD 2 0, ?_⟩
  rw [dot_eq, dot_eq, dot_eq, h0, h1, h2]
  grind
theorem first_dot {p : Int} (hp : PrimeOk p) {c : Nat} {g0 v : List Int} : ∃ q, dot (firstOf p c g0) v = inv p (g0.getD c 0) * dot g0 v + p * q := by
  obtain ⟨q0, h0⟩ := firstOf_get hp (c := c) (g0 := g0) 0
  obtain ⟨q1, h1⟩ := firstOf_get hp (c := c) (g0 := g0) 1
  obtain ⟨q2, h2⟩ := firstOf_get hp (c := c) (g0 := g0) 2
  refine ⟨q0 * v.getD 0 0 + q1 * v.getD 1 0 + q2 * v.getD 2 0, ?_⟩
  rw [dot_eq, dot_eq, h0, h1, h2]
  grind
theorem dvd_lin {p a b x q : Int} (h1 : p ∣ a) (h2 : p ∣ b) : p ∣ a - x * b + p * q := by
  obtain ⟨u, rfl⟩ := h1
  obtain ⟨w, rfl⟩ := h2
  exact ⟨u - x * w + q, by grind⟩
/- one step of the reduction keeps what goes to nothing -/
theorem lstep_ker {p : Int} (hp : PrimeOk p) {nc c : Nat} {st : List (List Int) × List (List Int)} (b1 : Bd p nc st.1) (b2 : Bd p nc st.2) (v : List Int) :
    (Kz p (lstep p st c).1 v ∧ Kz p (lstep p st c).2 v) ↔ (Kz p st.1 v ∧ Kz p st.2 v) := by
  obtain ⟨rows, found⟩ := st
  rcases split_filter c rows with ⟨hf, hd⟩ | ⟨pre, g0, post, gs, he, hf, hdw, htw, hnz, hz⟩
  · unfold lstep
    rw [hd]
  · have e : lstep p (rows, found) c = ((pre ++ post).map (redRow p c (firstOf p c g0)), found.map (redRow p c (firstOf p c g0)) ++ [firstOf p c g0]) := by
      unfold lstep; rw [hdw, htw]
    rw [e]
    have hg0 : g0 ∈ rows := by rw [he]; exact List.mem_append_right _ (.head _)
    have hxb := getD_bd hp (b1 g0 hg0).2 c
    obtain ⟨iv, orest, ho, hi1, hi2, hi3⟩ := inv_ok hp (x := g0.getD c 0) (by lia) hxb.2
    have inv_e : inv p (g0.getD c 0) = iv := by unfold inv; rw [ho]; rfl
    obtain ⟨qf, hqf⟩ := first_dot hp (c := c) (g0 := g0) (v := v)
    rw [inv_e] at hqf
    have hone : ∃ z, iv * g0.getD c 0 = 1 + p * z := by
      obtain ⟨z, hz⟩ := fm_dvd hp (iv * g0.getD c 0)
      rw [hi3] at hz
      exact ⟨z, by lia⟩
    have hfl : ∀ r : List Int, r.length = nc → (firstOf p c g0).length = r.length := fun r hr => by rw [(firstOf_bd hp).1, (b1 g0 hg0).1, hr]
    constructor
    · rintro ⟨k1, k2⟩
      have hfd : p ∣ dot (firstOf p c g0) v := k2 _ (List.mem_append_right _ (.head _))
      have back : ∀ r : List Int, r.length = nc → p ∣ dot (redRow p c (firstOf p c g0) r) v → p ∣ dot r v := fun r hr h => by
        obtain ⟨q, hq⟩ := red_dot hp (c := c) (v := v) (hfl r hr)
        obtain ⟨a, ha⟩ := h
        obtain ⟨b, hb⟩ := hfd
        exact ⟨a + r.getD c 0 * b - q, by grind⟩
      refine ⟨fun r hr => ?_, fun r hr => back r (b2 r hr).1 (k2 _ (List.mem_append_left _ (List.mem_map.mpr ⟨r, hr, rfl⟩)))⟩
      rw [he] at hr
      rcases List.mem_append.mp hr with h | h
      · exact back r (b1 r (by rw [he]; exact List.mem_append_left _ h)).1 (k1 _ (List.mem_map.mpr ⟨r, List.mem_append_left _ h, rfl⟩))
      · rcases List.mem_cons.mp h with rfl | h
        · obtain ⟨b, hb⟩ := hfd
          obtain ⟨z, hz⟩ := hone
          exact ⟨r.getD c 0 * (b - qf) - z * dot r v, by grind⟩
        · exact back r (b1 r (by rw [he]; exact List.mem_append_right _ (.tail _ h))).1 (k1 _ (List.mem_map.mpr ⟨r, List.mem_append_right _ h, rfl⟩))
    · rintro ⟨k1, k2⟩
      have hfd : p ∣ dot (firstOf p c g0) v := by
        obtain ⟨a, ha⟩ := k1 g0 hg0
        exact ⟨iv * a + qf, by rw [hqf, ha]; grind⟩
      have fwd : ∀ r : List Int, r.length = nc → p ∣ dot r v → p ∣ dot (redRow p c (firstOf p c g0) r) v := fun r hr h => by
        obtain ⟨q, hq⟩ := red_dot hp (c := c) (v := v) (hfl r hr)
        rw [hq]; exact dvd_lin h hfd
      refine ⟨fun r hr => ?_, fun r hr => ?_⟩
      · obtain ⟨r', hr', rfl⟩ := List.mem_map.mp hr
        have hm : r' ∈ rows := by
          rw [he]
          rcases List.mem_append.mp hr' with h | h
          · exact List.mem_append_left _ h
          · exact List.mem_append_right _ (.tail _ h)
        exact fwd r' (b1 r' hm).1 (k1 r' hm)
      · rcases List.mem_append.mp hr with h | h
        · obtain ⟨r', hr', rfl⟩ := List.mem_map.mp h
          exact fwd r' (b2 r' hr').1 (k2 r' hr')
        · rw [List.mem_singleton.mp h]; exact hfd
/- the shape -/
structure Piv (i : Nat) (F : List (List Int)) (cs : List Nat) : Prop where
  len : cs.length = F.length
  lt : ∀ c ∈ cs, c < i
  up : cs.Pairwise (· < ·)
  pv : ∀ j k, j < F.length → k < F.length → (F.getD j []).getD (cs.getD k 0) 0 = if j = k then 1 else 0
  ld : ∀ j, j < F.length → ∀ q, q < cs.getD j 0 → (F.getD j []).getD q 0 = 0
end Mine
namespace Mine
theorem redRow_at {p : Int} {c : Nat} {f r : List Int} {k : Nat} (hk : k < r.length) : (redRow p c f r).getD k 0 = (r.getD k 0 - r.getD c 0 * f.getD k 0).fmod p := by
  unfold redRow
  rw [List.getD_eq_getElem?_getD, List.getElem?_map, List.getElem?_range hk]; rfl
theorem firstOf_at {p : Int} {c : Nat} {g0 : List Int} {k : Nat} (hk : k < g0.length) : (firstOf p c g0).getD k 0 = (inv p (g0.getD c 0) * g0.getD k 0).fmod p := by
  unfold firstOf
  rw [List.getD_eq_getElem?_getD, List.getElem?_map, List.getD_eq_getElem?_getD (l := g0) (i := k), List.getElem?_eq_getElem hk]; rfl
theorem getD_app_lt {α : Type} {l l' : List α} {d : α} {j : Nat} (h : j < l.length) : (l ++ l').getD j d = l.getD j d := by
  rw [List.getD_eq_getElem?_getD, List.getD_eq_getElem?_getD, List.getElem?_append_left h]
theorem getD_app_at {α : Type} {l : List α} {x d : α} : (l ++ [x]).getD l.length d = x := by
  rw [List.getD_eq_getElem?_getD, List.getElem?_append_right (Nat.le_refl _), Nat.sub_self]; rfl
theorem getD_map' {α β : Type} {l : List α} {f : α → β} {d : α} {e : β} {j : Nat} (h : j < l.length) : (l.map f).getD j e = f (l.getD j d) := by
  rw [List.getD_eq_getElem?_getD, List.getD_eq_getElem?_getD, List.getElem?_map, List.getElem?_eq_getElem h]; rfl
theorem getD_mem' {α : Type} {l : List α} {d : α} {j : Nat} (h : j < l.length) : l.getD j d ∈ l := by
  rw [List.getD_eq_getElem?_getD, List.getElem?_eq_getElem h]; exact List.getElem_mem h

theorem lstep_piv {p : Int} (hp : PrimeOk p) {nc i : Nat} (hi : i < nc) {st : List (List Int) × List (List Int)} (b1 : Bd p nc st.1) (b2 : Bd p nc st.2) (z : ∀ r ∈ st.1, ∀ k, k < i → r.getD k 0 = 0) {cs : List Nat} (P : Piv i st.2 cs) :
    (∀ r ∈ (lstep p st i).1, ∀ k, k < i + 1 → r.getD k 0 = 0) ∧ ∃ cs', Piv (i + 1) (lstep p st i).2 cs' := by
  obtain ⟨rows, found⟩ := st
  have hpp := hp.pos
  rcases split_filter i rows with ⟨hf, hd⟩ | ⟨pre, g0, post, gs, he, hf, hdw, htw, hnz, hz⟩
  · have e : lstep p (rows, found) i = (rows, found) := by unfold lstep; rw [hd]
    rw [e]
    refine ⟨fun r hr k hk => ?_, cs, P.len, fun c hc => Nat.lt_succ_of_lt (P.lt c hc), P.up, P.pv, P.ld⟩
    rcases Nat.lt_succ_iff_lt_or_eq.mp hk with h | h
    · exact z r hr k h
    · subst h
      have := List.filter_eq_nil_iff.mp hf r hr
      simpa using this
  · have e : lstep p (rows, found) i = ((pre ++ post).map (redRow p i (firstOf p i g0)), found.map (redRow p i (firstOf p i g0)) ++ [firstOf p i g0]) := by
      unfold lstep; rw [hdw, htw]
    rw [e]
    have hg0 : g0 ∈ rows := by rw [he]; exact List.mem_append_right _ (.head _)
    have hgl := (b1 g0 hg0).1
    have hxb := getD_bd hp (b1 g0 hg0).2 i
    obtain ⟨iv, orest, ho, hi1, hi2, hi3⟩ := inv_ok hp (x := g0.getD i 0) (by lia) hxb.2
    have inv_e : inv p (g0.getD i 0) = iv := by unfold inv; rw [ho]; rfl
    have f0 : ∀ q, q < i → (firstOf p i g0).getD q 0 = 0 := fun q hq => by
      rw [firstOf_at (by lia), z g0 hg0 q hq, Int.mul_zero]
      exact fm_self hp (Int.le_refl 0) (by lia)
    have f1 : (firstOf p i g0).getD i 0 = 1 := by
      rw [firstOf_at (by lia), inv_e, hi3]
    have r0 : ∀ r, r.length = nc → (∀ x ∈ r, 0 ≤ x ∧ x < p) → ∀ q, q < i → (redRow p i (firstOf p i g0) r).getD q 0 = r.getD q 0 := fun r hl hb q hq => by
      have := getD_bd hp hb q
      rw [redRow_at (by lia), f0 q hq, Int.mul_zero, Int.sub_zero]
      exact fm_self hp this.1 this.2
    have r1 : ∀ r : List Int, r.length = nc → (redRow p i (firstOf p i g0) r).getD i 0 = 0 := fun r hl => by
      rw [redRow_at (by lia), f1, Int.mul_one, Int.sub_self]
      exact fm_self hp (Int.le_refl 0) (by lia)
    refine ⟨fun r hr k hk => ?_, cs ++ [i], ?_⟩
    · obtain ⟨r', hr', rfl⟩ := List.mem_map.mp hr
      have hm : r' ∈ rows := by
        rw [he]
        rcases List.mem_append.mp hr' with h | h
        · exact List.mem_append_left _ h
        · exact List.mem_append_right _ (.tail _ h)
      rcases Nat.lt_succ_iff_lt_or_eq.mp hk with h | h
      · rw [r0 r' (b1 r' hm).1 (b1 r' hm).2 k h]; exact z r' hm k h
      · rw [h]; exact r1 r' (b1 r' hm).1
    · have hl : (found.map (redRow p i (firstOf p i g0)) ++ [firstOf p i g0]).length = found.length + 1 := by rw [List.length_append, List.length_map]; rfl
      have hml : (found.map (redRow p i (firstOf p i g0))).length = found.length := List.length_map ..
      have row_lt : ∀ j, j < found.length → (found.map (redRow p i (firstOf p i g0)) ++ [firstOf p i g0]).getD j [] = redRow p i (firstOf p i g0) (found.getD j []) := fun j hj => by
        rw [getD_app_lt (by rw [hml]; exact hj), getD_map' (d := []) hj]
      have row_at : (found.map (redRow p i (firstOf p i g0)) ++ [firstOf p i g0]).getD found.length [] = firstOf p i g0 := by
        rw [← hml]; exact getD_app_at
      have c_lt : ∀ k, k < found.length → (cs ++ [i]).getD k 0 = cs.getD k 0 := fun k hk => getD_app_lt (by rw [P.len]; exact hk)
      have c_at : (cs ++ [i]).getD found.length 0 = i := by
        have := getD_app_at (l := cs) (x := i) (d := 0)
        rw [P.len] at this; exact this
      have c_i : ∀ k, k < found.length → cs.getD k 0 < i := fun k hk => P.lt _ (getD_mem' (by rw [P.len]; exact hk))
      have fb : ∀ j, j < found.length → (found.getD j []).length = nc ∧ ∀ x ∈ found.getD j [], 0 ≤ x ∧ x < p := fun j hj => b2 _ (getD_mem' hj)
      refine ⟨?_, ?_, ?_, ?_, ?_⟩
      · rw [hl, List.length_append, P.len]; rfl
      · intro c hc
        rcases List.mem_append.mp hc with h | h
        · exact Nat.lt_succ_of_lt (P.lt c h)
        · rw [List.mem_singleton.mp h]; exact Nat.lt_succ_self i
      · refine List.pairwise_append.mpr ⟨P.up, List.pairwise_singleton .., fun a ha b hb => ?_⟩
        rw [List.mem_singleton.mp hb]; exact P.lt a ha
      · intro j k hj hk
        rw [hl] at hj hk
        rcases Nat.lt_succ_iff_lt_or_eq.mp hj with hj | hj <;> rcases Nat.lt_succ_iff_lt_or_eq.mp hk with hk | hk
        · rw [row_lt j hj, c_lt k hk, r0 _ (fb j hj).1 (fb j hj).2 _ (c_i k hk)]; exact P.pv j k hj hk
        · rw [row_lt j hj, hk, c_at, r1 _ (fb j hj).1, if_neg (by lia)]
        · rw [hj, row_at, c_lt k hk, f0 _ (c_i k hk), if_neg (by lia)]
        · rw [hj, hk, row_at, c_at, f1, if_pos rfl]
      · intro j hj q hq
        rw [hl] at hj
        rcases Nat.lt_succ_iff_lt_or_eq.mp hj with hj | hj
        · rw [c_lt j hj] at hq
          rw [row_lt j hj, r0 _ (fb j hj).1 (fb j hj).2 q (Nat.lt_trans hq (c_i j hj))]
          exact P.ld j hj q hq
        · rw [hj, c_at] at hq
          rw [hj, row_at]; exact f0 q hq

/- what is left has the shape, and takes to nothing what the table does -/
theorem leftOf_shape {p : Int} (hp : PrimeOk p) {nc : Nat} (h3 : nc ≤ 3) {T : List (List Int)} (hT : Bd p nc T) : (∃ cs, Piv nc (leftOf p nc T) cs) ∧ ∀ v, Kz p (leftOf p nc T) v ↔ Kz p T v := by
  have key : ∀ i, i ≤ nc → (Bd p nc ((List.range i).foldl (lstep p) (T, [])).1 ∧ Bd p nc ((List.range i).foldl (lstep p) (T, [])).2) ∧ (∀ r ∈ ((List.range i).foldl (lstep p) (T, [])).1, ∀ k, k < i → r.getD k 0 = 0) ∧ (∃ cs, Piv i ((List.range i).foldl (lstep p) (T, [])).2 cs) ∧
      ∀ v, (Kz p ((List.range i).foldl (lstep p) (T, [])).1 v ∧ Kz p ((List.range i).foldl (lstep p) (T, [])).2 v) ↔ Kz p T v := by
    intro i
    induction i with
    | zero =>
      intro _
      exact ⟨⟨hT, fun r hr => nomatch hr⟩, fun _ _ _ h => absurd h (Nat.not_lt_zero _), ⟨[], rfl, fun _ h => (nomatch h), .nil, fun _ _ h => absurd h (Nat.not_lt_zero _), fun _ h => absurd h (Nat.not_lt_zero _)⟩, fun v => ⟨fun h => h.1, fun h => ⟨h, fun r hr => nomatch hr⟩⟩⟩
    | succ i ih =>
      intro hi
      obtain ⟨b, z, ⟨cs, P⟩, kk⟩ := ih (by lia)
      rw [List.range_succ, List.foldl_append]
      obtain ⟨z', P'⟩ := lstep_piv hp (by omega) b.1 b.2 z P
      exact ⟨lstep_bd hp b.1 b.2, z', P', fun v => (lstep_ker hp b.1 b.2 v).trans (kk v)⟩
  obtain ⟨b, z, P, kk⟩ := key nc (Nat.le_refl _)
  refine ⟨P, fun v => ⟨fun h => (kk v).mp ⟨fun r hr => ?_, h⟩, fun h => ((kk v).mpr h).2⟩⟩
  have hr0 : ∀ k, r.getD k 0 = 0 := fun k => by
    rcases Nat.lt_or_ge k nc with h | h
    · exact z r hr k h
    · rw [List.getD_eq_getElem?_getD, List.getElem?_eq_none (by rw [(b.1 r hr).1]; exact h)]; rfl
  rw [dot_eq, hr0, hr0, hr0]
  exact ⟨0, by grind⟩
end Mine
namespace Mine
noncomputable def rs (p : Int) : List Int := (List.range p.toNat).map fun (k : Nat) => (k : Int)
noncomputable def rrefs (p : Int) : Nat → List (List (List Int))
  | 1 => [[], [[1]]]
  | 2 => [[], [[0, 1]], [[1, 0], [0, 1]]] ++ (rs p).map fun a => [[1, a]]
  | 3 => [[], [[0, 0, 1]], [[0, 1, 0], [0, 0, 1]], [[1, 0, 0], [0, 1, 0], [0, 0, 1]]] ++ ((rs p).map (fun a => [[0, 1, a]]) ++ ((rs p).map (fun a => [[1, a, 0], [0, 0, 1]]) ++ (rs p).flatMap fun a => (rs p).flatMap fun b => [[[1, a, b]], [[1, 0, a], [0, 1, b]]]))
  | _ => []
noncomputable def vecs (p : Int) : Nat → List (List Int)
  | 1 => (rs p).map fun a => [a]
  | 2 => (rs p).flatMap fun a => (rs p).map fun b => [a, b]
  | _ => everyOf p
noncomputable def chk (p : Int) : Bool :=
  (rrefs p 3).all fun R => R.all (fun r => !(begOf r).isEmpty) &&
    (List.range R.length).all (fun i => i == 0 || !decide ((beginsOf R).getD i 0 < (beginsOf R).getD (i - 1) 0)) &&
    (List.range R.length).all (fun j => (List.range R.length).all fun k => (R.getD j []).getD ((beginsOf R).getD k 0).toNat 0 == if j = k then 1 else 0)
noncomputable def chkN (p : Int) (nc : Nat) : Bool := (rrefs p nc).all fun R => decide (R.length ≤ nc) && ((((vecs p nc).filter (zeroB R p)).length : Int) == p ^ (nc - R.length))
/- the same over Nat: the kernel counts faster there -/
noncomputable def cI (l : List Nat) : List Int := l.map fun (k : Nat) => (k : Int)
noncomputable def dN (r v : List Nat) : Nat := Nat.add (Nat.mul (r.getD 0 0) (v.getD 0 0)) (Nat.add (Nat.mul (r.getD 1 0) (v.getD 1 0)) (Nat.mul (r.getD 2 0) (v.getD 2 0)))
noncomputable def zN (p : Nat) (R : List (List Nat)) (v : List Nat) : Bool := R.all fun r => Nat.beq (Nat.mod (dN r v) p) 0
noncomputable def vecsN (p : Nat) : Nat → List (List Nat)
  | 1 => (List.range p).map fun a => [a]
  | 2 => (List.range p).flatMap fun a => (List.range p).map fun b => [a, b]
  | _ => (List.range p).flatMap fun a => (List.range p).flatMap fun b => (List.range p).map fun c => [a, b, c]
noncomputable def rrefsN (p : Nat) : Nat → List (List (List Nat))
  | 1 => [[], [[1]]]
  | 2 => [[], [[0, 1]], [[1, 0], [0, 1]]] ++ (List.range p).map fun a => [[1, a]]
  | 3 => [[], [[0, 0, 1]], [[0, 1, 0], [0, 0, 1]], [[1, 0, 0], [0, 1, 0], [0, 0, 1]]] ++ ((List.range p).map (fun a => [[0, 1, a]]) ++ ((List.range p).map (fun a => [[1, a, 0], [0, 0, 1]]) ++ (List.range p).flatMap fun a => (List.range p).flatMap fun b => [[[1, a, b]], [[1, 0, a], [0, 1, b]]]))
  | _ => []
noncomputable def chkNN (p nc : Nat) : Bool := (rrefsN p nc).all fun R => Nat.ble R.length nc && Nat.beq ((vecsN p nc).filter (zN p R)).length (p ^ (nc - R.length))
theorem cI_get (l : List Nat) (k : Nat) : (cI l).getD k 0 = (l.getD k 0 : Int) := by
  unfold cI
  rw [List.getD_eq_getElem?_getD, List.getElem?_map, List.getD_eq_getElem?_getD]
  cases l[k]? <;> rfl
theorem dot_cI (r v : List Nat) : dot (cI r) (cI v) = (dN r v : Int) := by
  rw [dot_eq, cI_get, cI_get, cI_get, cI_get, cI_get, cI_get]
  show _ = ((r.getD 0 0 * v.getD 0 0 + (r.getD 1 0 * v.getD 1 0 + r.getD 2 0 * v.getD 2 0) : Nat) : Int)
  rw [Int.natCast_add, Int.natCast_add, Int.natCast_mul, Int.natCast_mul, Int.natCast_mul, Int.add_assoc]
theorem fm_cI (n p : Nat) : (n : Int).fmod (p : Int) = ((n % p : Nat) : Int) := by
  rw [Int.fmod_eq_emod_of_nonneg _ (Int.natCast_nonneg p), Int.natCast_emod]
theorem zb_cI (n p : Nat) : ((n : Int).fmod (p : Int) == 0) = Nat.beq (Nat.mod n p) 0 := by
  rw [fm_cI, Bool.eq_iff_iff, beq_iff_eq, Nat.beq_eq]
  exact Int.natCast_eq_zero
theorem sum_zero : ∀ l : List Int, (∀ x ∈ l, 0 ≤ x) → (l.sum = 0 ↔ ∀ x ∈ l, x = 0)
  | [], _ => by simp
  | x :: l, h => by
    have h0 := h x (.head _)
    have ih := sum_zero l fun y hy => h y (.tail _ hy)
    have hs : 0 ≤ l.sum := by
      clear ih
      have : ∀ l : List Int, (∀ x ∈ l, 0 ≤ x) → 0 ≤ l.sum := by
        intro l
        induction l with
        | nil => intro _; exact Int.le_refl 0
        | cons y l ih => intro h; rw [List.sum_cons]; have := h y (.head _); have := ih fun z hz => h z (.tail _ hz); lia
      exact this l fun y hy => h y (.tail _ hy)
    rw [List.sum_cons]
    constructor
    · intro e
      have e1 : x = 0 := by lia
      have e2 : l.sum = 0 := by lia
      intro y hy
      rcases List.mem_cons.mp hy with rfl | hy
      · exact e1
      · exact ih.mp e2 y hy
    · intro e
      rw [e x (.head _), ih.mpr fun y hy => e y (.tail _ hy)]; rfl
theorem zeroB_cI (p : Nat) (R : List (List Nat)) (v : List Nat) : zeroB (R.map cI) p (cI v) = zN p R v := by
  unfold zeroB madeOf zN
  rw [Bool.eq_iff_iff, beq_iff_eq, List.map_map, sum_zero _ (fun x hx => ?_), List.all_eq_true]
  · constructor
    · intro h r hr
      rw [← zb_cI, beq_iff_eq, ← dot_cI]
      exact h _ (List.mem_map.mpr ⟨r, hr, rfl⟩)
    · intro h x hx
      obtain ⟨r, hr, rfl⟩ := List.mem_map.mp hx
      have := h r hr
      rw [← zb_cI, beq_iff_eq, ← dot_cI] at this
      exact this
  · obtain ⟨r, _, rfl⟩ := List.mem_map.mp hx
    show 0 ≤ (dot (cI r) (cI v)).fmod p
    rw [dot_cI, fm_cI]
    exact Int.natCast_nonneg _
theorem vecs_cI (p m : Nat) : vecs p m = (vecsN p m).map cI := by
  unfold vecs vecsN
  split
  · simp only [rs, List.map_map, Int.toNat_natCast]; rfl
  · simp only [rs, List.map_flatMap, List.flatMap_map, List.map_map]; rfl
  · simp only [everyOf, List.map_flatMap, List.map_map, Int.toNat_natCast]; rfl
theorem rrefs_cI (p m : Nat) : rrefs p m = (rrefsN p m).map fun R => R.map cI := by
  unfold rrefs rrefsN
  split
  · rfl
  · simp only [rs, List.map_append, List.map_map, Int.toNat_natCast]; rfl
  · simp only [rs, List.map_append, List.map_map, List.map_flatMap, List.flatMap_map, Int.toNat_natCast]; rfl
  · rfl
theorem chkN_cI {p nc : Nat} (h : chkNN p nc = true) : chkN p nc = true := by
  unfold chkN
  rw [rrefs_cI, vecs_cI, List.all_map]
  refine List.all_eq_true.mpr fun R hR => ?_
  have h := List.all_eq_true.mp h R hR
  rw [Bool.and_eq_true] at h
  have e := Nat.eq_of_beq_eq_true h.2
  have el : (R.map cI).length = R.length := List.length_map ..
  show (decide ((R.map cI).length ≤ nc) && (((((vecsN p nc).map cI).filter (zeroB (R.map cI) p)).length : Int) == (p : Int) ^ (nc - (R.map cI).length))) = true
  rw [el, List.filter_map, List.length_map, Bool.and_eq_true, beq_iff_eq]
  refine ⟨decide_eq_true (Nat.le_of_ble_eq_true h.1), ?_⟩
  rw [show (zeroB (R.map cI) p ∘ cI) = zN p R from funext fun v => zeroB_cI p R v, e, Int.natCast_pow]
noncomputable def begN (r : List Nat) : Nat := bif Nat.beq (r.getD 0 0) 0 then bif Nat.beq (r.getD 1 0) 0 then 2 else 1 else 0
noncomputable def basisN (p : Nat) (R : List (List Nat)) : List (List Nat) :=
  ((List.range 3).filter fun f => !(R.any fun r => Nat.beq (begN r) f)).map fun f => (List.range 3).map fun q => bif Nat.beq q f then 1 else
    ((R.find? fun r => Nat.beq (begN r) q).map fun r => Nat.mod (Nat.sub p (r.getD f 0)) p).getD 0
noncomputable def chkUN (p : Nat) : Bool := (rrefsN p 3).all fun R => (basisN p R).all (zN p R) && (rrefsN p 3).all fun R' => !(Nat.beq R.length R'.length) || (R == R') || !((basisN p R).all (zN p R'))
set_option maxHeartbeats 4000000
theorem chk2 : chk 2 = true := by decide +kernel
theorem chk3 : chk 3 = true := by decide +kernel
theorem chkN2 : (chkNN 2 1 && chkNN 2 2 && chkNN 2 3) = true := by decide +kernel
theorem chkN3 : (chkNN 3 1 && chkNN 3 2 && chkNN 3 3) = true := by decide +kernel
theorem chkU2 : chkUN 2 = true := by decide +kernel
theorem chkU3 : chkUN 3 = true := by decide +kernel
end Mine
namespace Mine
set_option maxHeartbeats 4000000
theorem chk5 : chk 5 = true := by decide +kernel
theorem chkN5 : (chkNN 5 1 && chkNN 5 2 && chkNN 5 3) = true := by decide +kernel
theorem chkU5 : chkUN 5 = true := by decide +kernel
end Mine
namespace Mine
theorem len2 {α : Type} {l : List α} (h : l.length = 2) : ∃ a b, l = [a, b] := by
  match l, h with
  | [a, b], _ => exact ⟨a, b, rfl⟩
theorem len3 {α : Type} {l : List α} (h : l.length = 3) : ∃ a b c, l = [a, b, c] := by
  match l, h with
  | [a, b, c], _ => exact ⟨a, b, c, rfl⟩
theorem mem_rs {p x : Int} (h0 : 0 ≤ x) (h1 : x < p) : x ∈ rs p := by
  unfold rs
  obtain ⟨k, rfl⟩ := Int.eq_ofNat_of_zero_le h0
  exact List.mem_map.mpr ⟨k, List.mem_range.mpr (by lia), rfl⟩
theorem row1 {p : Int} {r : List Int} (h : r.length = 1 ∧ ∀ x ∈ r, 0 ≤ x ∧ x < p) : ∃ x, r = [x] ∧ x ∈ rs p := by
  obtain ⟨x, rfl⟩ := List.length_eq_one_iff.mp h.1
  have := h.2 x (by simp)
  exact ⟨x, rfl, mem_rs this.1 this.2⟩
theorem row2 {p : Int} {r : List Int} (h : r.length = 2 ∧ ∀ x ∈ r, 0 ≤ x ∧ x < p) : ∃ x y, r = [x, y] ∧ x ∈ rs p ∧ y ∈ rs p := by
  obtain ⟨x, y, rfl⟩ := len2 h.1
  have h1 := h.2 x (by simp)
  have h2 := h.2 y (by simp)
  exact ⟨x, y, rfl, mem_rs h1.1 h1.2, mem_rs h2.1 h2.2⟩
theorem row3 {p : Int} {r : List Int} (h : r.length = 3 ∧ ∀ x ∈ r, 0 ≤ x ∧ x < p) : ∃ x y z, r = [x, y, z] ∧ x ∈ rs p ∧ y ∈ rs p ∧ z ∈ rs p := by
  obtain ⟨x, y, z, rfl⟩ := len3 h.1
  have h1 := h.2 x (by simp)
  have h2 := h.2 y (by simp)
  have h3 := h.2 z (by simp)
  exact ⟨x, y, z, rfl, mem_rs h1.1 h1.2, mem_rs h2.1 h2.2, mem_rs h3.1 h3.2⟩
theorem cs1 {a nc : Nat} (h3 : nc ≤ 3) (h : a < nc) : (a = 0 ∧ 1 ≤ nc) ∨ (a = 1 ∧ 2 ≤ nc) ∨ (a = 2 ∧ 3 ≤ nc) := by lia
theorem cs2 {a b nc : Nat} (h3 : nc ≤ 3) (h : b < nc) (h' : a < b) : (a = 0 ∧ b = 1 ∧ 2 ≤ nc) ∨ (a = 0 ∧ b = 2 ∧ 3 ≤ nc) ∨ (a = 1 ∧ b = 2 ∧ 3 ≤ nc) := by lia
theorem cs3 {a b c nc : Nat} (h3 : nc ≤ 3) (h : c < nc) (h' : a < b) (h'' : b < c) : a = 0 ∧ b = 1 ∧ c = 2 ∧ 3 ≤ nc := by lia
theorem cs4 {a b c d nc : Nat} (h3 : nc ≤ 3) (h : d < nc) (h' : a < b) (h'' : b < c) (h4 : c < d) : False := by lia
theorem lt_hd {a b : Nat} {l : List Nat} (up : (a :: b :: l).Pairwise (· < ·)) : a < b := List.rel_of_pairwise_cons up (.head _)
theorem cs_cases {nc : Nat} (h3 : nc ≤ 3) {cs : List Nat} (hl : ∀ c ∈ cs, c < nc) (up : cs.Pairwise (· < ·)) :
    cs = [] ∨ (cs = [0] ∧ 1 ≤ nc) ∨ (cs = [1] ∧ 2 ≤ nc) ∨ (cs = [2] ∧ 3 ≤ nc) ∨ (cs = [0, 1] ∧ 2 ≤ nc) ∨ (cs = [0, 2] ∧ 3 ≤ nc) ∨ (cs = [1, 2] ∧ 3 ≤ nc) ∨ (cs = [0, 1, 2] ∧ 3 ≤ nc) := by
  rcases cs with _ | ⟨a, _ | ⟨b, _ | ⟨c, _ | ⟨d, l⟩⟩⟩⟩
  · exact .inl rfl
  · rcases cs1 h3 (hl a (.head _)) with ⟨rfl, h⟩ | ⟨rfl, h⟩ | ⟨rfl, h⟩
    · exact .inr (.inl ⟨rfl, h⟩)
    · exact .inr (.inr (.inl ⟨rfl, h⟩))
    · exact .inr (.inr (.inr (.inl ⟨rfl, h⟩)))
  · rcases cs2 h3 (hl b (.tail _ (.head _))) (lt_hd up) with ⟨rfl, rfl, h⟩ | ⟨rfl, rfl, h⟩ | ⟨rfl, rfl, h⟩
    · exact .inr (.inr (.inr (.inr (.inl ⟨rfl, h⟩))))
    · exact .inr (.inr (.inr (.inr (.inr (.inl ⟨rfl, h⟩)))))
    · exact .inr (.inr (.inr (.inr (.inr (.inr (.inl ⟨rfl, h⟩))))))
  · obtain ⟨rfl, rfl, rfl, h⟩ := cs3 h3 (hl c (.tail _ (.tail _ (.head _)))) (lt_hd up) (lt_hd (List.pairwise_cons.mp up).2)
    exact .inr (.inr (.inr (.inr (.inr (.inr (.inr ⟨rfl, h⟩))))))
  · exact (cs4 h3 (hl d (.tail _ (.tail _ (.tail _ (.head _))))) (lt_hd up) (lt_hd (List.pairwise_cons.mp up).2) (lt_hd (List.pairwise_cons.mp (List.pairwise_cons.mp up).2).2)).elim
theorem a01 : (0 : Nat) < 1 := by decide
theorem a02 : (0 : Nat) < 2 := by decide
theorem a12 : (1 : Nat) < 2 := by decide
theorem a03 : (0 : Nat) < 3 := by decide
theorem a13 : (1 : Nat) < 3 := by decide
theorem a23 : (2 : Nat) < 3 := by decide
theorem sh1 {p : Int} {F : List (List Int)} (b : Bd p 1 F) (h : 1 = F.length) : ∃ x, F = [[x]] := by
  obtain ⟨r, rfl⟩ := List.length_eq_one_iff.mp h.symm
  obtain ⟨x, rfl, _⟩ := row1 (b r (.head _))
  exact ⟨x, rfl⟩
theorem sh1_2 {p : Int} {F : List (List Int)} (b : Bd p 2 F) (h : 1 = F.length) : ∃ x y, F = [[x, y]] ∧ y ∈ rs p := by
  obtain ⟨r, rfl⟩ := List.length_eq_one_iff.mp h.symm
  obtain ⟨x, y, rfl, _, hy⟩ := row2 (b r (.head _))
  exact ⟨x, y, rfl, hy⟩
theorem sh1_3 {p : Int} {F : List (List Int)} (b : Bd p 3 F) (h : 1 = F.length) : ∃ x y z, F = [[x, y, z]] ∧ y ∈ rs p ∧ z ∈ rs p := by
  obtain ⟨r, rfl⟩ := List.length_eq_one_iff.mp h.symm
  obtain ⟨x, y, z, rfl, _, hy⟩ := row3 (b r (.head _))
  exact ⟨x, y, z, rfl, hy⟩
theorem sh2_2 {p : Int} {F : List (List Int)} (b : Bd p 2 F) (h : 2 = F.length) : ∃ x y x' y', F = [[x, y], [x', y']] := by
  obtain ⟨r, t, rfl⟩ := len2 h.symm
  obtain ⟨x, y, rfl, _⟩ := row2 (b r (.head _))
  obtain ⟨x', y', rfl, _⟩ := row2 (b t (.tail _ (.head _)))
  exact ⟨x, y, x', y', rfl⟩
theorem sh2_3 {p : Int} {F : List (List Int)} (b : Bd p 3 F) (h : 2 = F.length) : ∃ x y z x' y' z', F = [[x, y, z], [x', y', z']] ∧ (y ∈ rs p ∧ z ∈ rs p) ∧ z' ∈ rs p := by
  obtain ⟨r, t, rfl⟩ := len2 h.symm
  obtain ⟨x, y, z, rfl, _, q⟩ := row3 (b r (.head _))
  obtain ⟨x', y', z', rfl, _, _, q'⟩ := row3 (b t (.tail _ (.head _)))
  exact ⟨x, y, z, x', y', z', rfl, q, q'⟩
theorem sh3_3 {p : Int} {F : List (List Int)} (b : Bd p 3 F) (h : 3 = F.length) : ∃ x y z x' y' z' x'' y'' z'', F = [[x, y, z], [x', y', z'], [x'', y'', z'']] := by
  obtain ⟨r, t, u, rfl⟩ := len3 h.symm
  obtain ⟨x, y, z, rfl, _⟩ := row3 (b r (.head _))
  obtain ⟨x', y', z', rfl, _⟩ := row3 (b t (.tail _ (.head _)))
  obtain ⟨x'', y'', z'', rfl, _⟩ := row3 (b u (.tail _ (.tail _ (.head _))))
  exact ⟨x, y, z, x', y', z', x'', y'', z'', rfl⟩
section
variable {p x y z x' y' z' x'' y'' z'' : Int}
theorem mA1 (e : x = 1) : [[x]] ∈ rrefs p 1 := by subst_vars; exact .tail _ (.head _)
theorem mA2 (e : x = 1) (h : y ∈ rs p) : [[x, y]] ∈ rrefs p 2 := by subst_vars; exact List.mem_append_right _ (List.mem_map.mpr ⟨y, h, rfl⟩)
theorem mA3 (e : x = 1) (h : y ∈ rs p) (h' : z ∈ rs p) : [[x, y, z]] ∈ rrefs p 3 := by subst_vars; exact List.mem_append_right _ (List.mem_append_right _ (List.mem_append_right _ (List.mem_flatMap.mpr ⟨y, h, List.mem_flatMap.mpr ⟨z, h', .head _⟩⟩)))
theorem mB2 (e : y = 1) (e' : x = 0) : [[x, y]] ∈ rrefs p 2 := by subst_vars; exact List.mem_append_left _ (.tail _ (.head _))
theorem mB3 (e : y = 1) (e' : x = 0) (h : z ∈ rs p) : [[x, y, z]] ∈ rrefs p 3 := by subst_vars; exact List.mem_append_right _ (List.mem_append_left _ (List.mem_map.mpr ⟨z, h, rfl⟩))
theorem mC3 (e : z = 1) (e' : x = 0) (e'' : y = 0) : [[x, y, z]] ∈ rrefs p 3 := by subst_vars; exact List.mem_append_left _ (.tail _ (.head _))
theorem mD2 (e : x = 1) (e' : y = 0) (f : x' = 0) (f' : y' = 1) : [[x, y], [x', y']] ∈ rrefs p 2 := by subst_vars; exact List.mem_append_left _ (.tail _ (.tail _ (.head _)))
theorem mD3 (e : x = 1) (e' : y = 0) (f : x' = 0) (f' : y' = 1) (h : z ∈ rs p) (h' : z' ∈ rs p) : [[x, y, z], [x', y', z']] ∈ rrefs p 3 := by subst_vars; exact List.mem_append_right _ (List.mem_append_right _ (List.mem_append_right _ (List.mem_flatMap.mpr ⟨z, h, List.mem_flatMap.mpr ⟨z', h', .tail _ (.head _)⟩⟩)))
theorem mE3 (e : x = 1) (e' : z = 0) (f : x' = 0) (f' : z' = 1) (f'' : y' = 0) (h : y ∈ rs p) : [[x, y, z], [x', y', z']] ∈ rrefs p 3 := by subst_vars; exact List.mem_append_right _ (List.mem_append_right _ (List.mem_append_left _ (List.mem_map.mpr ⟨y, h, rfl⟩)))
theorem mF3 (e : y = 1) (e' : z = 0) (f : y' = 0) (f' : z' = 1) (d : x = 0) (d' : x' = 0) : [[x, y, z], [x', y', z']] ∈ rrefs p 3 := by subst_vars; exact List.mem_append_left _ (.tail _ (.tail _ (.head _)))
theorem mG3 (e : x = 1) (e' : y = 0) (e'' : z = 0) (f : x' = 0) (f' : y' = 1) (f'' : z' = 0) (d : x'' = 0) (d' : y'' = 0) (d'' : z'' = 1) : [[x, y, z], [x', y', z'], [x'', y'', z'']] ∈ rrefs p 3 := by subst_vars; exact List.mem_append_left _ (.tail _ (.tail _ (.tail _ (.head _))))
end
theorem n123 {nc : Nat} (h1 : 1 ≤ nc) (h3 : nc ≤ 3) : nc = 1 ∨ nc = 2 ∨ nc = 3 := by lia
theorem n23 {nc : Nat} (h1 : 2 ≤ nc) (h3 : nc ≤ 3) : nc = 2 ∨ nc = 3 := by lia
section
variable {p : Int} {nc : Nat} {F : List (List Int)}
theorem pv0 (h : nc = 1 ∨ nc = 2 ∨ nc = 3) (P : Piv nc F []) : F ∈ rrefs p nc := by
  obtain rfl : F = [] := List.length_eq_zero_iff.mp P.len.symm
  rcases h with rfl | rfl | rfl
  · exact .head _
  · exact List.mem_append_left _ (.head _)
  · exact List.mem_append_left _ (.head _)
theorem pvA (h : nc = 1 ∨ nc = 2 ∨ nc = 3) (b : Bd p nc F) (P : Piv nc F [0]) : F ∈ rrefs p nc := by
  rcases h with rfl | rfl | rfl
  · obtain ⟨x, rfl⟩ := sh1 b P.len
    exact mA1 (P.pv 0 0 a01 a01)
  · obtain ⟨x, y, rfl, h⟩ := sh1_2 b P.len
    exact mA2 (P.pv 0 0 a01 a01) h
  · obtain ⟨x, y, z, rfl, h⟩ := sh1_3 b P.len
    exact mA3 (P.pv 0 0 a01 a01) h.1 h.2
theorem pvB (h : nc = 2 ∨ nc = 3) (b : Bd p nc F) (P : Piv nc F [1]) : F ∈ rrefs p nc := by
  rcases h with rfl | rfl
  · obtain ⟨x, y, rfl, h⟩ := sh1_2 b P.len
    exact mB2 (P.pv 0 0 a01 a01) (P.ld 0 a01 0 a01)
  · obtain ⟨x, y, z, rfl, h⟩ := sh1_3 b P.len
    exact mB3 (P.pv 0 0 a01 a01) (P.ld 0 a01 0 a01) h.2
theorem pvC (b : Bd p 3 F) (P : Piv 3 F [2]) : F ∈ rrefs p 3 := by
  obtain ⟨x, y, z, rfl, h⟩ := sh1_3 b P.len
  exact mC3 (P.pv 0 0 a01 a01) (P.ld 0 a01 0 a02) (P.ld 0 a01 1 a12)
theorem pvD (h : nc = 2 ∨ nc = 3) (b : Bd p nc F) (P : Piv nc F [0, 1]) : F ∈ rrefs p nc := by
  rcases h with rfl | rfl
  · obtain ⟨x, y, x', y', rfl⟩ := sh2_2 b P.len
    exact mD2 (P.pv 0 0 a02 a02) (P.pv 0 1 a02 a12) (P.pv 1 0 a12 a02) (P.pv 1 1 a12 a12)
  · obtain ⟨x, y, z, x', y', z', rfl, h⟩ := sh2_3 b P.len
    exact mD3 (P.pv 0 0 a02 a02) (P.pv 0 1 a02 a12) (P.pv 1 0 a12 a02) (P.pv 1 1 a12 a12) h.1.2 h.2
theorem pvE (b : Bd p 3 F) (P : Piv 3 F [0, 2]) : F ∈ rrefs p 3 := by
  obtain ⟨x, y, z, x', y', z', rfl, h⟩ := sh2_3 b P.len
  exact mE3 (P.pv 0 0 a02 a02) (P.pv 0 1 a02 a12) (P.pv 1 0 a12 a02) (P.pv 1 1 a12 a12) (P.ld 1 a12 1 a12) h.1.1
theorem pvF (b : Bd p 3 F) (P : Piv 3 F [1, 2]) : F ∈ rrefs p 3 := by
  obtain ⟨x, y, z, x', y', z', rfl, h⟩ := sh2_3 b P.len
  exact mF3 (P.pv 0 0 a02 a02) (P.pv 0 1 a02 a12) (P.pv 1 0 a12 a02) (P.pv 1 1 a12 a12) (P.ld 0 a02 0 a01) (P.ld 1 a12 0 a02)
theorem pvG (b : Bd p 3 F) (P : Piv 3 F [0, 1, 2]) : F ∈ rrefs p 3 := by
  obtain ⟨x, y, z, x', y', z', x'', y'', z'', rfl⟩ := sh3_3 b P.len
  exact mG3 (P.pv 0 0 a03 a03) (P.pv 0 1 a03 a13) (P.pv 0 2 a03 a23) (P.pv 1 0 a13 a03) (P.pv 1 1 a13 a13) (P.pv 1 2 a13 a23) (P.pv 2 0 a23 a03) (P.pv 2 1 a23 a13) (P.pv 2 2 a23 a23)
end
theorem piv_mem {p : Int} (hp : PrimeOk p) {nc : Nat} (h1 : 1 ≤ nc) (h3 : nc ≤ 3) {F : List (List Int)} {cs : List Nat} (b : Bd p nc F) (P : Piv nc F cs) : F ∈ rrefs p nc := by
  rcases cs_cases h3 P.lt P.up with e | ⟨e, _⟩ | ⟨e, hn⟩ | ⟨e, hn⟩ | ⟨e, hn⟩ | ⟨e, hn⟩ | ⟨e, hn⟩ | ⟨e, hn⟩
  · exact pv0 (n123 h1 h3) (e ▸ P)
  · exact pvA (n123 h1 h3) b (e ▸ P)
  · exact pvB (n23 hn h3) b (e ▸ P)
  · obtain rfl := Nat.le_antisymm h3 hn; exact pvC b (e ▸ P)
  · exact pvD (n23 hn h3) b (e ▸ P)
  · obtain rfl := Nat.le_antisymm h3 hn; exact pvE b (e ▸ P)
  · obtain rfl := Nat.le_antisymm h3 hn; exact pvF b (e ▸ P)
  · obtain rfl := Nat.le_antisymm h3 hn; exact pvG b (e ▸ P)
end Mine
namespace Mine
theorem zeroB_iff {p : Int} (hp : PrimeOk p) (T : List (List Int)) (v : List Int) : zeroB T p v = true ↔ Kz p T v := by
  unfold zeroB
  rw [beq_iff_eq, sum_zero _ (fun x hx => ?_)]
  · unfold madeOf Kz
    constructor
    · intro h r hr
      exact (fm_zero hp _).mp (h _ (List.mem_map.mpr ⟨r, hr, rfl⟩))
    · intro h x hx
      obtain ⟨r, hr, rfl⟩ := List.mem_map.mp hx
      exact (fm_zero hp _).mpr (h r hr)
  · obtain ⟨r, _, rfl⟩ := List.mem_map.mp hx
    exact (fmod_bd hp _).1
theorem zeroB_eq {p : Int} (hp : PrimeOk p) {T R : List (List Int)} {v : List Int} (h : Kz p R v ↔ Kz p T v) : zeroB R p v = zeroB T p v := by
  have a := zeroB_iff hp T v
  have b := zeroB_iff hp R v
  cases h1 : zeroB R p v <;> cases h2 : zeroB T p v <;> simp_all
theorem chk_ok {p : Int} (hp : PrimeOk p) : chk p = true := by
  rcases hp with rfl | rfl | rfl
  · exact chk2
  · exact chk3
  · exact chk5
theorem chkU_ok {p : Nat} (h : p = 2 ∨ p = 3 ∨ p = 5) : chkUN p = true := by
  rcases h with rfl | rfl | rfl
  · exact chkU2
  · exact chkU3
  · exact chkU5
theorem chkN_all {p : Nat} (h : p = 2 ∨ p = 3 ∨ p = 5) : (chkNN p 1 && chkNN p 2 && chkNN p 3) = true := by
  rcases h with rfl | rfl | rfl
  · exact chkN2
  · exact chkN3
  · exact chkN5
theorem PrimeOk.nat {p : Int} (hp : PrimeOk p) : ∃ n : Nat, p = n ∧ (n = 2 ∨ n = 3 ∨ n = 5) := by
  rcases hp with rfl | rfl | rfl
  · exact ⟨2, rfl, .inl rfl⟩
  · exact ⟨3, rfl, .inr (.inl rfl)⟩
  · exact ⟨5, rfl, .inr (.inr rfl)⟩
theorem chkN_ok {p : Int} (hp : PrimeOk p) {nc : Nat} (h1 : 1 ≤ nc) (h3 : nc ≤ 3) : chkN p nc = true := by
  obtain ⟨n, rfl, h⟩ := hp.nat
  have h := chkN_all h
  rw [Bool.and_eq_true, Bool.and_eq_true] at h
  rcases n123 h1 h3 with rfl | rfl | rfl
  · exact chkN_cI h.1.1
  · exact chkN_cI h.1.2
  · exact chkN_cI h.2
theorem every_rs {p : Int} (hp : PrimeOk p) : everyOf p = (rs p).flatMap fun a => (rs p).flatMap fun b => (rs p).map fun c => [a, b, c] := by
  rcases hp with rfl | rfl | rfl <;> rfl
theorem mem_every {p : Int} (hp : PrimeOk p) {v : List Int} (hl : v.length = 3) (hb : ∀ x ∈ v, 0 ≤ x ∧ x < p) : v ∈ everyOf p := by
  obtain ⟨a, b, c, rfl, ha, hb, hc⟩ := row3 ⟨hl, hb⟩
  rw [every_rs hp]
  exact List.mem_flatMap.mpr ⟨a, ha, List.mem_flatMap.mpr ⟨b, hb, List.mem_map.mpr ⟨c, hc, rfl⟩⟩⟩
theorem dvd_comb {p a b c d : Int} (h : p ∣ a) (h' : p ∣ b) (e : c = a + b + p * d) : p ∣ c :=
  e ▸ Int.dvd_add (Int.dvd_add h h') (Int.dvd_mul_right p d)
theorem fm_q {p : Int} (hp : PrimeOk p) (x : Int) : ∃ q, x.fmod p = x + p * q := by
  obtain ⟨q, h⟩ := fm_dvd hp x
  exact ⟨-q, by rw [Int.mul_neg, ← h]; lia⟩
theorem dvd_both {p : Int} (hp : PrimeOk p) {r v w : List Int} (h : p ∣ dot r v) (h' : p ∣ dot r w) : p ∣ dot r (bothOf p v w) := by
  obtain ⟨q0, e0⟩ := fm_q hp (v.getD 0 0 + w.getD 0 0)
  obtain ⟨q1, e1⟩ := fm_q hp (v.getD 1 0 + w.getD 1 0)
  obtain ⟨q2, e2⟩ := fm_q hp (v.getD 2 0 + w.getD 2 0)
  refine dvd_comb (d := r.getD 0 0 * q0 + r.getD 1 0 * q1 + r.getD 2 0 * q2) h h' ?_
  rw [dot_eq, dot_eq, dot_eq]
  show r.getD 0 0 * (v.getD 0 0 + w.getD 0 0).fmod p + r.getD 1 0 * (v.getD 1 0 + w.getD 1 0).fmod p + r.getD 2 0 * (v.getD 2 0 + w.getD 2 0).fmod p = _
  rw [e0, e1, e2]
  grind
theorem dbl_both {p : Int} {v : List Int} (h : v.length = 3) : dblOf p v = bothOf p v v := by
  obtain ⟨a, b, c, rfl⟩ := len3 h
  show [(2 * a).fmod p, (2 * b).fmod p, (2 * c).fmod p] = [(a + a).fmod p, (b + b).fmod p, (c + c).fmod p]
  rw [Int.two_mul, Int.two_mul, Int.two_mul]
theorem both_bd {p : Int} (hp : PrimeOk p) (v w : List Int) : (bothOf p v w).length = 3 ∧ ∀ x ∈ bothOf p v w, 0 ≤ x ∧ x < p :=
  ⟨rfl, fun x hx => by
    obtain ⟨k, _, rfl⟩ := List.mem_map.mp hx
    exact fmod_bd hp _⟩
theorem ker_both {p : Int} (hp : PrimeOk p) {R : List (List Int)} {v w : List Int} (h : v ∈ (everyOf p).filter (zeroB R p)) (h' : w ∈ (everyOf p).filter (zeroB R p)) : bothOf p v w ∈ (everyOf p).filter (zeroB R p) := by
  have z := (zeroB_iff hp R v).mp (List.mem_filter.mp h).2
  have z' := (zeroB_iff hp R w).mp (List.mem_filter.mp h').2
  have b := both_bd hp v w
  exact List.mem_filter.mpr ⟨mem_every hp b.1 b.2, (zeroB_iff hp R _).mpr fun r hr => dvd_both hp (z r hr) (z' r hr)⟩
theorem lastD_mem {α : Type} {l : List α} {x d : α} (h : x ∈ l) : l.getLastD d ∈ l := by
  cases l with
  | nil => cases h
  | cons a l => exact List.getLast_mem (l := a :: l) (List.cons_ne_nil _ _)
/- what the list of shapes tells -/
structure RrOk (p : Int) (R : List (List Int)) : Prop where
  r3 : R.length ≤ 3
  nul : (((everyOf p).filter (zeroB R p)).length : Int) = p ^ (3 - R.length)
  b1 : ∀ r ∈ R, begOf r ≠ []
  b2 : ∀ i, 1 ≤ i → i < R.length → ¬ (beginsOf R).getD i 0 < (beginsOf R).getD (i - 1) 0
  pv : ∀ j k, j < R.length → k < R.length → (R.getD j []).getD ((beginsOf R).getD k 0).toNat 0 = if j = k then 1 else 0
  c1 : ∀ r ∈ (everyOf p).filter (zeroB R p), bothOf p r (((everyOf p).filter (zeroB R p)).getLastD []) ∈ (everyOf p).filter (zeroB R p)
  c2 : ∀ r ∈ (everyOf p).filter (zeroB R p), dblOf p r ∈ (everyOf p).filter (zeroB R p)
theorem rrOk {p : Int} (hp : PrimeOk p) {R : List (List Int)} (h : R ∈ rrefs p 3) : RrOk p R := by
  have c := chk_ok hp
  unfold chk at c
  have c := List.all_eq_true.mp c R h
  rw [Bool.and_eq_true, Bool.and_eq_true] at c
  obtain ⟨⟨c3, c4⟩, c5⟩ := c
  have n := List.all_eq_true.mp (chkN_ok hp (nc := 3) (by decide) (by decide)) R h
  rw [Bool.and_eq_true] at n
  refine ⟨of_decide_eq_true n.1, beq_iff_eq.mp n.2, fun r hr => ?_, fun i h1 hi => ?_, fun j k hj hk => ?_, fun r hr => ker_both hp hr (lastD_mem hr), fun r hr => ?_⟩
  · have := List.all_eq_true.mp c3 r hr
    intro q; rw [q] at this; cases this
  · have := List.all_eq_true.mp c4 i (List.mem_range.mpr hi)
    rw [Bool.or_eq_true] at this
    rcases this with h | h
    · have := beq_iff_eq.mp h; lia
    · intro q; rw [decide_eq_true q] at h; cases h
  · have := List.all_eq_true.mp c5 j (List.mem_range.mpr hj)
    have := List.all_eq_true.mp this k (List.mem_range.mpr hk)
    exact beq_iff_eq.mp this
  · rw [dbl_both (everyOf_bd r (List.mem_filter.mp hr).1).1]
    exact ker_both hp hr hr
theorem pow_inj {p : Int} (hp : PrimeOk p) {a b : Nat} (ha : a ≤ 3) (hb : b ≤ 3) (h : p ^ (3 - a) = p ^ (3 - b)) : a = b := by
  have h1 : a = 0 ∨ a = 1 ∨ a = 2 ∨ a = 3 := by lia
  have h2 : b = 0 ∨ b = 1 ∨ b = 2 ∨ b = 3 := by lia
  rcases hp with rfl | rfl | rfl <;> rcases h1 with rfl | rfl | rfl | rfl <;> rcases h2 with rfl | rfl | rfl | rfl <;> first | rfl | (simp at h)
theorem ker_list {p : Int} (hp : PrimeOk p) {T R : List (List Int)} (h : ∀ v, Kz p R v ↔ Kz p T v) : (everyOf p).filter (zeroB R p) = nothingOf T p :=
  List.filter_congr fun v _ => zeroB_eq hp (h v)
theorem rr_unique {p : Int} (hp : PrimeOk p) {R R' : List (List Int)} (h : R ∈ rrefs p 3) (h' : R' ∈ rrefs p 3) (e : ∀ v, Kz p R v ↔ Kz p R' v) : R = R' := by
  have o := rrOk hp h
  have o' := rrOk hp h'
  have el : (everyOf p).filter (zeroB R p) = (everyOf p).filter (zeroB R' p) := List.filter_congr fun v _ => zeroB_eq hp (e v)
  have hl : R.length = R'.length := by
    have n := o.nul
    have n' := o'.nul
    rw [el] at n
    exact pow_inj hp o.r3 o'.r3 (n.symm.trans n')
  obtain ⟨n, rfl, hn⟩ := hp.nat
  rw [rrefs_cI] at h h'
  obtain ⟨S, hS, rfl⟩ := List.mem_map.mp h
  obtain ⟨S', hS', rfl⟩ := List.mem_map.mp h'
  rw [List.length_map, List.length_map] at hl
  have c := List.all_eq_true.mp (chkU_ok hn) S hS
  rw [Bool.and_eq_true] at c
  have c2 := List.all_eq_true.mp c.2 S' hS'
  rw [Bool.or_eq_true, Bool.or_eq_true] at c2
  rcases c2 with (c2 | c2) | c2
  · rw [hl, show Nat.beq S'.length S'.length = true from Nat.beq_refl _] at c2; cases c2
  · rw [beq_iff_eq.mp c2]
  · have : (basisN n S).all (zN n S') = true := by
      rw [List.all_eq_true]
      intro v hv
      have b := List.all_eq_true.mp c.1 v hv
      rw [← zeroB_cI] at b ⊢
      exact (zeroB_iff hp _ _).mpr ((e _).mp ((zeroB_iff hp _ _).mp b))
    rw [this] at c2; cases c2
theorem left_mem {p : Int} (hp : PrimeOk p) {nc : Nat} (h1 : 1 ≤ nc) (h3 : nc ≤ 3) {T : List (List Int)} (hT : Bd p nc T) : leftOf p nc T ∈ rrefs p nc := by
  obtain ⟨⟨cs, P⟩, _⟩ := leftOf_shape hp h3 hT
  exact piv_mem hp h1 h3 (leftOf_bd hp hT).1 P
theorem left_rev {p : Int} (hp : PrimeOk p) {T : List (List Int)} (hT : Bd p 3 T) : leftOf p 3 T.reverse = leftOf p 3 T := by
  have hT' : Bd p 3 T.reverse := fun r hr => hT r (List.mem_reverse.mp hr)
  refine rr_unique hp (left_mem hp (by decide) (by decide) hT') (left_mem hp (by decide) (by decide) hT) fun v => ?_
  rw [(leftOf_shape hp (by decide) hT').2 v, (leftOf_shape hp (by decide) hT).2 v]
  exact ⟨fun h r hr => h r (List.mem_reverse.mpr hr), fun h r hr => h r (List.mem_reverse.mp hr)⟩
end Mine
namespace Mine
theorem ltL_irr : ∀ x : List Int, ltL x x = false
  | [] => rfl
  | a :: x => by unfold ltL; rw [if_pos rfl]; exact ltL_irr x
theorem ltL_trans : ∀ {x y z : List Int}, ltL x y = true → ltL y z = true → ltL x z = true
  | [], [], _, h, _ => by simp [ltL] at h
  | [], _ :: _, [], _, h => by simp [ltL] at h
  | [], _ :: _, _ :: _, _, _ => rfl
  | _ :: _, [], _, h, _ => by simp [ltL] at h
  | _ :: _, _ :: _, [], _, h => by simp [ltL] at h
  | a :: x, b :: y, c :: z, h1, h2 => by
    unfold ltL at h1 h2 ⊢
    by_cases e1 : a = b
    · subst e1
      rw [if_pos rfl] at h1
      by_cases e2 : a = c
      · subst e2
        rw [if_pos rfl] at h2 ⊢
        exact ltL_trans h1 h2
      · rw [if_neg e2] at h2 ⊢; exact h2
    · rw [if_neg e1] at h1
      have h1 := of_decide_eq_true h1
      by_cases e2 : b = c
      · subst e2
        rw [if_neg e1]; exact decide_eq_true h1
      · rw [if_neg e2] at h2
        have h2 := of_decide_eq_true h2
        rw [if_neg (by lia)]
        exact decide_eq_true (by omega)
theorem ltL_tri : ∀ {x y : List Int}, x.length = y.length → x = y ∨ ltL x y = true ∨ ltL y x = true
  | [], [], _ => .inl rfl
  | [], _ :: _, h => by simp at h
  | _ :: _, [], h => by simp at h
  | a :: x, b :: y, h => by
    by_cases e : a = b
    · subst e
      rcases ltL_tri (x := x) (y := y) (by simpa using h) with e | e | e
      · exact .inl (by rw [e])
      · exact .inr (.inl (by unfold ltL; rw [if_pos rfl]; exact e))
      · exact .inr (.inr (by unfold ltL; rw [if_pos rfl]; exact e))
    · by_cases l : a < b
      · exact .inr (.inl (by unfold ltL; rw [if_neg e]; exact decide_eq_true l))
      · exact .inr (.inr (by unfold ltL; rw [if_neg (Ne.symm e)]; exact decide_eq_true (by lia)))
theorem ltL_asym {x y : List Int} (h : ltL x y = true) : ltL y x = false := by
  cases q : ltL y x with
  | false => rfl
  | true => have := ltL_trans h q; rw [ltL_irr] at this; cases this

abbrev Inc (M : List (List Int)) : Prop := M.Pairwise fun x y => ltL x y = true
theorem Inc.at {M : List (List Int)} (h : Inc M) {i j : Nat} (hij : i < j) (hj : j < M.length) : ltL (M.getD i []) (M.getD j []) = true := by
  rw [List.getD_eq_getElem?_getD, List.getD_eq_getElem?_getD, List.getElem?_eq_getElem hj, List.getElem?_eq_getElem (by omega)]
  exact List.pairwise_iff_getElem.mp h i j (by lia) hj hij
theorem bisL_spec {M : List (List Int)} (h : Inc M) (t : List Int) : ∀ (k : Nat) (lo hi : Int), hi - lo < k → 0 ≤ lo → lo ≤ hi → hi ≤ M.length → (∀ i : Nat, (i : Int) < lo → ltL (M.getD i []) t = true) → (∀ i : Nat, hi ≤ i → i < M.length → ltL (M.getD i []) t = false) →
    (∀ i : Nat, (i : Int) < bisL M t k lo hi → ltL (M.getD i []) t = true) ∧ ∀ i : Nat, bisL M t k lo hi ≤ i → i < M.length → ltL (M.getD i []) t = false
  | 0, lo, hi, hk, h0, hl, _, _, _ => by omega
  | k + 1, lo, hi, hk, h0, hl, hh, a, b => by
    rw [bisL_succ]
    by_cases hlt : lo < hi
    · rw [if_pos hlt]
      have e : (lo + hi).fdiv 2 = (lo + hi) / 2 := Int.fdiv_eq_ediv_of_nonneg _ (by decide)
      generalize hm : (lo + hi).fdiv 2 = mid at e
      cases q : ltL (M.getD mid.toNat []) t with
      | true =>
        rw [if_pos rfl]
        refine bisL_spec h t k (mid + 1) hi (by lia) (by omega) (by lia) hh (fun i hi' => ?_) b
        rcases Nat.lt_or_ge i mid.toNat with hlt' | hge
        · exact ltL_trans (h.at hlt' (by lia)) q
        · have : i = mid.toNat := by lia
          rw [this]; exact q
      | false =>
        rw [if_neg (by decide)]
        refine bisL_spec h t k lo mid (by omega) h0 (by omega) (by omega) a (fun i hi' hil => ?_)
        rcases Nat.lt_or_ge mid.toNat i with hlt' | hge
        · cases q2 : ltL (M.getD i []) t with
          | false => rfl
          | true => have := ltL_trans (h.at hlt' hil) q2; rw [q] at this; cases this
        · have : i = mid.toNat := by lia
          rw [this]; exact q
    · rw [if_neg hlt]
      have : lo = hi := by lia
      subst this
      exact ⟨a, b⟩
theorem mstep_ok {T : List (List Int)} {p : Int} {M : List (List Int)} {v : List Int} (h : Inc M) (hl : ∀ t ∈ M, t.length = T.length) : Inc (mstep T p M v) ∧ ∀ t, t ∈ mstep T p M v ↔ t ∈ M ∨ t = madeOf T v p := by
  have htl : (madeOf T v p).length = T.length := List.length_map ..
  unfold mstep
  generalize madeOf T v p = t at htl
  have hb := bisL_bd M t (M.length + 1) 0 M.length (by decide) (by lia)
  have sp := bisL_spec h t (M.length + 1) 0 M.length (by lia) (by decide) (by lia) (by lia) (fun i hi => by lia) (fun i hi hi' => by lia)
  have insE : insL M t = M.take (bisL M t (M.length + 1) 0 M.length).toNat ++ t :: M.drop (bisL M t (M.length + 1) 0 M.length).toNat := rfl
  generalize bisL M t (M.length + 1) 0 M.length = r at hb sp insE
  obtain ⟨r, rfl⟩ := Int.eq_ofNat_of_zero_le hb.1
  rw [Int.toNat_natCast] at insE ⊢
  have hr : r ≤ M.length := by lia
  have split : M.take r ++ M.drop r = M := List.take_append_drop r M
  have hpw := h
  rw [← split] at hpw
  obtain ⟨pw1, pw2, pw3⟩ := List.pairwise_append.mp hpw
  have low : ∀ x ∈ M.take r, ltL x t = true := by
    intro x hx
    obtain ⟨i, hi, rfl⟩ := List.getElem_of_mem hx
    rw [List.length_take] at hi
    have := sp.1 i (by lia)
    rw [List.getD_eq_getElem?_getD, List.getElem?_eq_getElem (by omega)] at this
    rw [List.getElem_take]; exact this
  split
  · rename_i hc
    rw [insE]
    have hne : r < M.length → M.getD r [] ≠ t := fun hlt => by
      rw [Bool.or_eq_true] at hc
      rcases hc with hc | hc
      · have := beq_iff_eq.mp hc; omega
      · exact bne_iff_ne.mp hc
    have high : ∀ y ∈ M.drop r, ltL t y = true := by
      intro y hy
      have hlt : r < M.length := by
        rcases Nat.lt_or_ge r M.length with h | h
        · exact h
        · rw [List.drop_of_length_le h] at hy; cases hy
      have h0 : ltL t (M.getD r []) = true := by
        have hm : M.getD r [] ∈ M := getD_mem' hlt
        rcases ltL_tri (x := t) (y := M.getD r []) (htl.trans (hl _ hm).symm) with e | e | e
        · exact absurd e.symm (hne hlt)
        · exact e
        · have := sp.2 r (Int.le_refl _) hlt; rw [e] at this; cases this
      rw [List.drop_eq_getElem_cons hlt] at hy pw2
      have eg : M.getD r [] = M[r] := by rw [List.getD_eq_getElem?_getD, List.getElem?_eq_getElem hlt]; rfl
      rw [eg] at h0
      rcases List.mem_cons.mp hy with rfl | hy
      · exact h0
      · exact ltL_trans h0 ((List.pairwise_cons.mp pw2).1 y hy)
    refine ⟨List.pairwise_append.mpr ⟨pw1, List.pairwise_cons.mpr ⟨high, pw2⟩, fun x hx y hy => ?_⟩, fun t' => ?_⟩
    · rcases List.mem_cons.mp hy with rfl | hy
      · exact low x hx
      · exact pw3 x hx y hy
    · have : t' ∈ M ↔ t' ∈ M.take r ∨ t' ∈ M.drop r := by rw [← List.mem_append, split]
      rw [this, List.mem_append, List.mem_cons]
      constructor
      · rintro (h | h | h)
        · exact .inl (.inl h)
        · exact .inr h
        · exact .inl (.inr h)
      · rintro ((h | h) | h)
        · exact .inl h
        · exact .inr (.inr h)
        · exact .inr (.inl h)
  · rename_i hc
    refine ⟨h, fun t' => ⟨fun h => .inl h, fun h' => ?_⟩⟩
    rcases h' with h' | rfl
    · exact h'
    · rw [Bool.or_eq_true, not_or] at hc
      have hlt : r < M.length := by
        have : ¬ (r : Int) = M.length := fun q => hc.1 (beq_iff_eq.mpr q)
        omega
      have e : M.getD r [] = t' := by
        have := hc.2
        rwa [bne_iff_ne, ne_eq, Decidable.not_not] at this
      rw [← e]; exact getD_mem' hlt
theorem mades_ok (T : List (List Int)) (p : Int) (vs : List (List Int)) : Inc (madesOf T p vs) ∧ ∀ t, t ∈ madesOf T p vs ↔ ∃ v ∈ vs, t = madeOf T v p := by
  have key : ∀ (vs M : List (List Int)), Inc M → (∀ t ∈ M, t.length = T.length) → Inc (vs.foldl (mstep T p) M) ∧ ∀ t, t ∈ vs.foldl (mstep T p) M ↔ t ∈ M ∨ ∃ v ∈ vs, t = madeOf T v p := by
    intro vs
    induction vs with
    | nil => intro M h _; exact ⟨h, fun t => ⟨.inl, fun h => h.elim id fun ⟨_, h, _⟩ => nomatch h⟩⟩
    | cons v vs ih =>
      intro M h hl
      rw [List.foldl_cons]
      obtain ⟨s1, s2⟩ := mstep_ok (T := T) (p := p) (v := v) h hl
      obtain ⟨i1, i2⟩ := ih (mstep T p M v) s1 (fun t ht => by
        rcases (s2 t).mp ht with h | rfl
        · exact hl t h
        · exact List.length_map ..)
      refine ⟨i1, fun t => (i2 t).trans ?_⟩
      constructor
      · rintro (h | ⟨u, hu, e⟩)
        · rcases (s2 t).mp h with h | h
          · exact .inl h
          · exact .inr ⟨v, .head _, h⟩
        · exact .inr ⟨u, .tail _ hu, e⟩
      · rintro (h | ⟨u, hu, e⟩)
        · exact .inl ((s2 t).mpr (.inl h))
        · rcases List.mem_cons.mp hu with rfl | hu
          · exact .inl ((s2 t).mpr (.inr e))
          · exact .inr ⟨u, hu, e⟩
  obtain ⟨a, b⟩ := key vs [] .nil (fun _ h => nomatch h)
  exact ⟨a, fun t => (b t).trans ⟨fun h => h.elim (fun h => nomatch h) id, .inr⟩⟩
theorem mades_srt {T : List (List Int)} {p : Int} {vs : List (List Int)} (i : Nat) (h1 : 1 ≤ i) (hi : i < (madesOf T p vs).length) : ltL ((madesOf T p vs).getD i []) ((madesOf T p vs).getD (i - 1) []) = false :=
  ltL_asym ((mades_ok T p vs).1.at (by omega) hi)
/- the counts over what was made add up -/
theorem cnt_sum (T : List (List Int)) (p : Int) (M : List (List Int)) (hM : M.Nodup) : ∀ vs : List (List Int), (∀ v ∈ vs, madeOf T v p ∈ M) → (M.map fun t => cnt T p vs t).sum = vs.length
  | [], _ => by
    have : ∀ M : List (List Int), (M.map fun t => cnt T p [] t).sum = 0 := by
      intro M
      induction M with
      | nil => rfl
      | cons x M ih => rw [List.map_cons, List.sum_cons, ih]; rfl
    exact this M
  | v :: vs, h => by
    have ih := cnt_sum T p M hM vs fun u hu => h u (.tail _ hu)
    have hv := h v (.head _)
    have e : ∀ t, cnt T p (v :: vs) t = (if madeOf T v p = t then 1 else 0) + cnt T p vs t := by
      intro t
      unfold cnt
      rw [List.filter_cons]
      by_cases q : madeOf T v p = t
      · rw [if_pos q, if_pos (decide_eq_true q), List.length_cons, Nat.add_comm]
      · rw [if_neg q, if_neg (by rw [decide_eq_false q]; exact Bool.false_ne_true), Nat.zero_add]
    have ind : ∀ M : List (List Int), M.Nodup → madeOf T v p ∈ M → (M.map fun t => cnt T p (v :: vs) t).sum = 1 + (M.map fun t => cnt T p vs t).sum := by
      intro M
      induction M with
      | nil => intro _ h; cases h
      | cons x M ihM =>
        intro nd hm
        rw [List.map_cons, List.map_cons, List.sum_cons, List.sum_cons, e x]
        obtain ⟨nx, nd⟩ := List.nodup_cons.mp nd
        by_cases q : madeOf T v p = x
        · rw [if_pos q]
          have z : (M.map fun t => cnt T p (v :: vs) t) = M.map fun t => cnt T p vs t := List.map_congr_left fun t ht => by
            rw [e t, if_neg (fun q' => nx (by rw [← q, q']; exact ht)), Nat.zero_add]
          rw [z]; lia
        · rw [if_neg q, ihM nd ((List.mem_cons.mp hm).resolve_left q)]; lia
    rw [ind M hM hv, ih, List.length_cons, Nat.add_comm]
theorem Inc.nodup {M : List (List Int)} (h : Inc M) : M.Nodup := h.imp fun {a b} hab q => by subst q; rw [ltL_irr] at hab; cases hab
end Mine
namespace Mine
theorem len_flat (f : List Int → Bool) {α : Type} (F : α → List (List Int)) : ∀ l : List α, ((l.flatMap F).filter f).length = (l.map fun x => ((F x).filter f).length).sum
  | [] => rfl
  | x :: l => by rw [List.flatMap_cons, List.filter_append, List.length_append, len_flat f F l, List.map_cons, List.sum_cons]
theorem len_map (f : List Int → Bool) {α : Type} (F : α → List Int) : ∀ l : List α, ((l.map F).filter f).length = (l.map fun x => if f (F x) = true then 1 else 0).sum
  | [] => rfl
  | x :: l => by
    rw [List.map_cons, List.filter_cons, List.map_cons, List.sum_cons, ← len_map f F l]
    by_cases h : f (F x) = true
    · rw [if_pos h, if_pos h, List.length_cons, Nat.add_comm]
    · rw [if_neg h, if_neg h, Nat.zero_add]
theorem every_cnt {p : Int} (hp : PrimeOk p) (f : List Int → Bool) : ((everyOf p).filter f).length = ((rs p).map fun a => ((rs p).map fun b => ((rs p).map fun c => if f [a, b, c] = true then 1 else 0).sum).sum).sum := by
  rw [every_rs hp, len_flat]
  congr 1
  refine List.map_congr_left fun a _ => ?_
  rw [len_flat]
  congr 1
  refine List.map_congr_left fun b _ => ?_
  rw [len_map]
theorem shift1 {p : Int} (hp : PrimeOk p) {x : Int} (h0 : 0 ≤ x) (h1 : x < p) (g : Int → Nat) : ((rs p).map fun a => g ((a - x).fmod p)).sum = ((rs p).map g).sum := by
  rcases hp with rfl | rfl | rfl
  · have : x = 0 ∨ x = 1 := by lia
    rcases this with rfl | rfl
    · show g 0 + (g 1 + 0) = g 0 + (g 1 + 0); rfl
    · show g 1 + (g 0 + 0) = g 0 + (g 1 + 0); lia
  · have : x = 0 ∨ x = 1 ∨ x = 2 := by lia
    rcases this with rfl | rfl | rfl
    · show g 0 + (g 1 + (g 2 + 0)) = g 0 + (g 1 + (g 2 + 0)); rfl
    · show g 2 + (g 0 + (g 1 + 0)) = g 0 + (g 1 + (g 2 + 0)); lia
    · show g 1 + (g 2 + (g 0 + 0)) = g 0 + (g 1 + (g 2 + 0)); lia
  · have : x = 0 ∨ x = 1 ∨ x = 2 ∨ x = 3 ∨ x = 4 := by lia
    rcases this with rfl | rfl | rfl | rfl | rfl
    · show g 0 + (g 1 + (g 2 + (g 3 + (g 4 + 0)))) = g 0 + (g 1 + (g 2 + (g 3 + (g 4 + 0)))); rfl
    · show g 4 + (g 0 + (g 1 + (g 2 + (g 3 + 0)))) = g 0 + (g 1 + (g 2 + (g 3 + (g 4 + 0)))); lia
    · show g 3 + (g 4 + (g 0 + (g 1 + (g 2 + 0)))) = g 0 + (g 1 + (g 2 + (g 3 + (g 4 + 0)))); lia
    · show g 2 + (g 3 + (g 4 + (g 0 + (g 1 + 0)))) = g 0 + (g 1 + (g 2 + (g 3 + (g 4 + 0)))); lia
    · show g 1 + (g 2 + (g 3 + (g 4 + (g 0 + 0)))) = g 0 + (g 1 + (g 2 + (g 3 + (g 4 + 0)))); lia
noncomputable def subV (p : Int) (v w : List Int) : List Int := [(v.getD 0 0 - w.getD 0 0).fmod p, (v.getD 1 0 - w.getD 1 0).fmod p, (v.getD 2 0 - w.getD 2 0).fmod p]
theorem shift3 {p : Int} (hp : PrimeOk p) {w : List Int} (hw : w ∈ everyOf p) (f : List Int → Bool) : ((everyOf p).filter fun v => f (subV p v w)).length = ((everyOf p).filter f).length := by
  obtain ⟨hl, hb⟩ := everyOf_bd w hw
  have b0 := getD_bd hp hb 0
  have b1 := getD_bd hp hb 1
  have b2 := getD_bd hp hb 2
  rw [every_cnt hp, every_cnt hp]
  rw [← shift1 hp b0.1 b0.2 fun a => ((rs p).map fun b => ((rs p).map fun c => if f [a, b, c] = true then 1 else 0).sum).sum]
  congr 1
  refine List.map_congr_left fun a _ => ?_
  rw [← shift1 hp b1.1 b1.2 fun b => ((rs p).map fun c => if f [(a - w.getD 0 0).fmod p, b, c] = true then 1 else 0).sum]
  congr 1
  refine List.map_congr_left fun b _ => ?_
  rw [← shift1 hp b2.1 b2.2 fun c => if f [(a - w.getD 0 0).fmod p, (b - w.getD 1 0).fmod p, c] = true then 1 else 0]
  rfl
theorem made_eq {p : Int} (hp : PrimeOk p) {T : List (List Int)} {v w : List Int} : madeOf T v p = madeOf T w p ↔ Kz p T (subV p v w) := by
  have key : ∀ r : List Int, (dot r v).fmod p = (dot r w).fmod p ↔ p ∣ dot r (subV p v w) := by
    intro r
    rw [fm_eq hp]
    obtain ⟨q0, h0⟩ := fm_dvd hp (v.getD 0 0 - w.getD 0 0)
    obtain ⟨q1, h1⟩ := fm_dvd hp (v.getD 1 0 - w.getD 1 0)
    obtain ⟨q2, h2⟩ := fm_dvd hp (v.getD 2 0 - w.getD 2 0)
    have e : dot r (subV p v w) = dot r v - dot r w - p * (r.getD 0 0 * q0 + r.getD 1 0 * q1 + r.getD 2 0 * q2) := by
      rw [dot_eq, dot_eq, dot_eq]
      show r.getD 0 0 * (v.getD 0 0 - w.getD 0 0).fmod p + r.getD 1 0 * (v.getD 1 0 - w.getD 1 0).fmod p + r.getD 2 0 * (v.getD 2 0 - w.getD 2 0).fmod p = _
      grind
    rw [e]
    constructor
    · rintro ⟨z, hz⟩; exact ⟨z - (r.getD 0 0 * q0 + r.getD 1 0 * q1 + r.getD 2 0 * q2), by grind⟩
    · rintro ⟨z, hz⟩; exact ⟨z + (r.getD 0 0 * q0 + r.getD 1 0 * q1 + r.getD 2 0 * q2), by grind⟩
  unfold madeOf Kz
  rw [List.map_inj_left]
  exact ⟨fun h r hr => (key r).mp (h r hr), fun h r hr => (key r).mpr (h r hr)⟩
theorem cnt_one {p : Int} (hp : PrimeOk p) {T : List (List Int)} {t : List Int} (h : t ∈ madesOf T p (everyOf p)) : cnt T p (everyOf p) t = (nothingOf T p).length := by
  obtain ⟨w, hw, rfl⟩ := ((mades_ok T p (everyOf p)).2 t).mp h
  unfold cnt nothingOf
  rw [← shift3 hp hw (zeroB T p)]
  congr 1
  refine List.filter_congr fun v _ => ?_
  have a := made_eq hp (T := T) (v := v) (w := w)
  have b := zeroB_iff hp T (subV p v w)
  by_cases q : madeOf T v p = madeOf T w p
  · rw [decide_eq_true q]; exact (b.mpr (a.mp q)).symm
  · rw [decide_eq_false q]
    cases z : zeroB T p (subV p v w) with
    | false => rfl
    | true => exact absurd (a.mpr (b.mp z)) q
theorem every_len {p : Int} (hp : PrimeOk p) : ((everyOf p).length : Int) = p ^ 3 := by rcases hp with rfl | rfl | rfl <;> decide +kernel
theorem sum_const {M : List (List Int)} {f : List Int → Nat} {n : Nat} (h : ∀ t ∈ M, f t = n) : (M.map f).sum = M.length * n := by
  induction M with
  | nil => simp
  | cons x M ih => rw [List.map_cons, List.sum_cons, h x (.head _), ih fun t ht => h t (.tail _ ht), List.length_cons, Nat.succ_mul, Nat.add_comm]
theorem img_len {p : Int} (hp : PrimeOk p) {T : List (List Int)} {r : Nat} (hr : r ≤ 3) (hn : ((nothingOf T p).length : Int) = p ^ (3 - r)) : ((madesOf T p (everyOf p)).length : Int) = p ^ r := by
  have s := cnt_sum T p (madesOf T p (everyOf p)) (mades_ok T p (everyOf p)).1.nodup (everyOf p) fun v hv => ((mades_ok T p (everyOf p)).2 _).mpr ⟨v, hv, rfl⟩
  rw [sum_const fun t ht => cnt_one hp ht] at s
  have e := every_len hp
  rw [← s, Int.natCast_mul, hn] at e
  generalize ((madesOf T p (everyOf p)).length : Int) = m at e
  have : r = 0 ∨ r = 1 ∨ r = 2 ∨ r = 3 := by lia
  rcases hp with rfl | rfl | rfl <;> rcases this with rfl | rfl | rfl | rfl <;> simp at e ⊢ <;> lia
end Mine
namespace Mine
noncomputable def zb (p x : Int) : Bool := x.fmod p == 0
noncomputable def chkO (p : Int) (m : Nat) : Bool := (vecs p m).all fun x => ((vecs p m).filter fun u => zb p (dot x u)).length == if x.sum == 0 then p.toNat ^ m else p.toNat ^ (m - 1)
noncomputable def chkL (p : Int) (m : Nat) : Bool := (vecs p m).length == p.toNat ^ m
set_option maxHeartbeats 4000000
noncomputable def chkON (p m : Nat) : Bool := ((vecsN p m).all fun x => Nat.beq ((vecsN p m).filter fun u => Nat.beq (Nat.mod (dN x u) p) 0).length (bif Nat.beq x.sum 0 then p ^ m else p ^ (m - 1))) && Nat.beq (vecsN p m).length (p ^ m)
theorem chkO2 : (chkON 2 1 && chkON 2 2 && chkON 2 3) = true := by decide +kernel
theorem chkO3 : (chkON 3 1 && chkON 3 2 && chkON 3 3) = true := by decide +kernel
theorem chkO5 : (chkON 5 1 && chkON 5 2 && chkON 5 3) = true := by decide +kernel
theorem chkO_all {p : Nat} (h : p = 2 ∨ p = 3 ∨ p = 5) : (chkON p 1 && chkON p 2 && chkON p 3) = true := by
  rcases h with rfl | rfl | rfl
  · exact chkO2
  · exact chkO3
  · exact chkO5
theorem sum_cI (x : List Nat) : (cI x).sum = (x.sum : Int) := by
  induction x with
  | nil => rfl
  | cons a x ih =>
    rw [List.sum_cons, Int.natCast_add, ← ih]
    exact List.sum_cons
theorem chkO_cI {p m : Nat} (h : chkON p m = true) : chkO p m = true ∧ chkL p m = true := by
  unfold chkON at h
  rw [Bool.and_eq_true] at h
  unfold chkO chkL
  rw [vecs_cI, List.all_map, List.length_map]
  refine ⟨List.all_eq_true.mpr fun x hx => ?_, beq_iff_eq.mpr (Nat.eq_of_beq_eq_true h.2)⟩
  have e := Nat.eq_of_beq_eq_true (List.all_eq_true.mp h.1 x hx)
  show (((((vecsN p m).map cI).filter fun u => zb p (dot (cI x) u)).length) == if (cI x).sum == 0 then p ^ m else p ^ (m - 1)) = true
  rw [List.filter_map, List.length_map, beq_iff_eq, show ((fun u => zb p (dot (cI x) u)) ∘ cI) = fun u => Nat.beq (Nat.mod (dN x u) p) 0 from funext fun u => by show zb p (dot (cI x) (cI u)) = _; rw [dot_cI]; exact zb_cI _ _, e, sum_cI]
  by_cases h0 : x.sum = 0
  · rw [h0]; rfl
  · rw [show Nat.beq x.sum 0 = false from Bool.eq_false_iff.mpr fun q => h0 (Nat.eq_of_beq_eq_true q), if_neg (fun q => h0 (Int.natCast_eq_zero.mp (beq_iff_eq.mp q)))]; rfl
theorem chkO_ok {p : Int} (hp : PrimeOk p) {m : Nat} (h1 : 1 ≤ m) (h3 : m ≤ 3) : chkO p m = true ∧ chkL p m = true := by
  obtain ⟨n, rfl, h⟩ := hp.nat
  have h := chkO_all h
  rw [Bool.and_eq_true, Bool.and_eq_true] at h
  rcases n123 h1 h3 with rfl | rfl | rfl
  · exact chkO_cI h.1.1
  · exact chkO_cI h.1.2
  · exact chkO_cI h.2
theorem mem_vecs {p : Int} (hp : PrimeOk p) {m : Nat} (h1 : 1 ≤ m) (h3 : m ≤ 3) {x : List Int} (h : x.length = m ∧ ∀ y ∈ x, 0 ≤ y ∧ y < p) : x ∈ vecs p m := by
  rcases n123 h1 h3 with rfl | rfl | rfl
  · obtain ⟨a, rfl, ha⟩ := row1 h
    exact List.mem_map.mpr ⟨a, ha, rfl⟩
  · obtain ⟨a, b, rfl, ha, hb⟩ := row2 h
    exact List.mem_flatMap.mpr ⟨a, ha, List.mem_map.mpr ⟨b, hb, rfl⟩⟩
  · exact mem_every hp h.1 h.2
theorem made_vec {p : Int} (hp : PrimeOk p) (T : List (List Int)) (v : List Int) : (madeOf T v p).length = T.length ∧ ∀ y ∈ madeOf T v p, 0 ≤ y ∧ y < p := by
  refine ⟨List.length_map .., fun y hy => ?_⟩
  obtain ⟨r, _, rfl⟩ := List.mem_map.mp hy
  exact fmod_bd hp _
theorem made_get {p : Int} (hp : PrimeOk p) (T : List (List Int)) (v : List Int) (i : Nat) : ∃ q, (madeOf T v p).getD i 0 = dot (T.getD i []) v + p * q := by
  by_cases h : i < T.length
  · have e : (madeOf T v p).getD i 0 = (dot (T.getD i []) v).fmod p := getD_map' (d := []) h
    obtain ⟨q, hq⟩ := fm_dvd hp (dot (T.getD i []) v)
    exact ⟨-q, by rw [e]; grind⟩
  · have e : (madeOf T v p).getD i 0 = 0 := by
      rw [List.getD_eq_getElem?_getD, List.getElem?_eq_none (by rw [(made_vec hp T v).1]; omega)]; rfl
    have e2 : T.getD i [] = [] := by rw [List.getD_eq_getElem?_getD, List.getElem?_eq_none (by lia)]; rfl
    have e3 : dot [] v = 0 := by rw [dot_eq]; simp
    exact ⟨0, by rw [e, e2, e3]; grind⟩
theorem col_get (T : List (List Int)) (k i : Nat) : (T.map fun r => r.getD k 0).getD i 0 = (T.getD i []).getD k 0 := by
  by_cases h : i < T.length
  · exact getD_map' (d := []) h
  · have e : (T.map fun r => r.getD k 0).getD i 0 = 0 := by rw [List.getD_eq_getElem?_getD, List.getElem?_eq_none (by rw [List.length_map]; lia)]; rfl
    have e2 : T.getD i [] = [] := by rw [List.getD_eq_getElem?_getD, List.getElem?_eq_none (by lia)]; rfl
    rw [e, e2]; simp
theorem dvd_shift (p y z : Int) : p ∣ y + p * z ↔ p ∣ y := by
  constructor
  · rintro ⟨w, hw⟩; exact ⟨w - z, by grind⟩
  · rintro ⟨w, hw⟩; exact ⟨w + z, by grind⟩
theorem ring9 (a b c d e f g h i u0 u1 u2 v0 v1 v2 p q0 q1 q2 s0 s1 s2 : Int) :
    (a * v0 + b * v1 + c * v2 + p * q0) * u0 + (d * v0 + e * v1 + f * v2 + p * q1) * u1 + (g * v0 + h * v1 + i * v2 + p * q2) * u2 =
    (a * u0 + d * u1 + g * u2 + p * s0) * v0 + (b * u0 + e * u1 + h * u2 + p * s1) * v1 + (c * u0 + f * u1 + i * u2 + p * s2) * v2 + p * (q0 * u0 + q1 * u1 + q2 * u2 - (s0 * v0 + s1 * v1 + s2 * v2)) := by grind
theorem bil {p : Int} (hp : PrimeOk p) (T : List (List Int)) (u v : List Int) : zb p (dot (madeOf T v p) u) = zb p (dot (madeOf (transOf T) u p) v) := by
  obtain ⟨q0, h0⟩ := made_get hp T v 0
  obtain ⟨q1, h1⟩ := made_get hp T v 1
  obtain ⟨q2, h2⟩ := made_get hp T v 2
  obtain ⟨s0, g0⟩ := made_get hp (transOf T) u 0
  obtain ⟨s1, g1⟩ := made_get hp (transOf T) u 1
  obtain ⟨s2, g2⟩ := made_get hp (transOf T) u 2
  have c : ∀ k, k < 3 → (transOf T).getD k [] = T.map fun r => r.getD k 0 := fun k hk => by
    have : k = 0 ∨ k = 1 ∨ k = 2 := by lia
    rcases this with rfl | rfl | rfl <;> rfl
  rw [c 0 (by decide), dot_eq, col_get, col_get, col_get] at g0
  rw [c 1 (by decide), dot_eq, col_get, col_get, col_get] at g1
  rw [c 2 (by decide), dot_eq, col_get, col_get, col_get] at g2
  rw [dot_eq] at h0 h1 h2
  have e : ∃ z, dot (madeOf T v p) u = dot (madeOf (transOf T) u p) v + p * z := by
    rw [dot_eq, dot_eq, h0, h1, h2, g0, g1, g2]
    exact ⟨_, ring9 ..⟩
  obtain ⟨z, e⟩ := e
  have i1 : (dot (madeOf T v p) u).fmod p = 0 ↔ (dot (madeOf (transOf T) u p) v).fmod p = 0 := by
    rw [fm_zero hp, fm_zero hp, e]
    exact dvd_shift _ _ _
  unfold zb
  by_cases h : (dot (madeOf T v p) u).fmod p = 0
  · rw [h, i1.mp h]
  · rw [beq_eq_false_iff_ne.mpr h, beq_eq_false_iff_ne.mpr fun q => h (i1.mpr q)]
theorem swap_sum (b : List Int → List Int → Bool) (Bs : List (List Int)) : ∀ A : List (List Int), (A.map fun v => (Bs.filter (b v)).length).sum = (Bs.map fun u => (A.filter fun v => b v u).length).sum
  | [] => by
    have : ∀ Bs : List (List Int), (Bs.map fun u => (([] : List (List Int)).filter fun v => b v u).length).sum = 0 := by
      intro Bs
      induction Bs with
      | nil => rfl
      | cons u Bs ih => rw [List.map_cons, List.sum_cons, ih]; rfl
    rw [this]; rfl
  | v :: A => by
    rw [List.map_cons, List.sum_cons, swap_sum b Bs A]
    have go : ∀ Bs : List (List Int), (Bs.filter (b v)).length + (Bs.map fun u => (A.filter fun v => b v u).length).sum = (Bs.map fun u => ((v :: A).filter fun v => b v u).length).sum := by
      intro Bs
      induction Bs with
      | nil => rfl
      | cons u Bs ih =>
        rw [List.map_cons, List.map_cons, List.sum_cons, List.sum_cons, ← ih, List.filter_cons, List.filter_cons]
        cases b v u with
        | true => simp only [if_true, List.length_cons]; lia
        | false => simp only [Bool.false_eq_true, if_false]; lia
    exact go Bs
theorem sum_if (c : List Int → Bool) (x y : Nat) : ∀ A : List (List Int), (A.map fun v => if c v = true then x else y).sum = (A.filter c).length * x + (A.length - (A.filter c).length) * y
  | [] => by simp
  | v :: A => by
    rw [List.map_cons, List.sum_cons, sum_if c x y A, List.filter_cons]
    have hl : (A.filter c).length ≤ A.length := List.length_filter_le _ _
    cases c v with
    | true =>
      simp only [if_true, List.length_cons]
      rw [Nat.succ_mul, Nat.add_sub_add_right]; lia
    | false =>
      simp only [Bool.false_eq_true, if_false, List.length_cons]
      have e : A.length + 1 - (A.filter c).length = (A.length - (A.filter c).length) + 1 := by lia
      rw [e, Nat.succ_mul]; lia
theorem num_key : ∀ p ∈ [2, 3, 5], ∀ m ∈ [1, 2, 3], ∀ r < 4, ∀ r' < 4, r' ≤ m → p ^ (3 - r) * p ^ m + (p ^ 3 - p ^ (3 - r)) * p ^ (m - 1) = p ^ (m - r') * p ^ 3 + (p ^ m - p ^ (m - r')) * p ^ 2 → r' = r := by decide
theorem rank_trans {p : Int} (hp : PrimeOk p) {T : List (List Int)} (h1 : 1 ≤ T.length) (h3 : T.length ≤ 3) (hT : Bd p 3 T) : (leftOf p T.length (transOf T)).length = (leftOf p 3 T).length := by
  have hm := rrOk hp (left_mem hp (by decide) (by decide) hT)
  have hk := (leftOf_shape hp (by decide) hT).2
  have hn := hm.nul
  rw [ker_list hp hk] at hn
  have htb := transOf_bd hp hT
  have ht := left_mem hp h1 h3 htb
  have htk := (leftOf_shape hp h3 htb).2
  have c := chkN_ok hp h1 h3
  unfold chkN at c
  have c := List.all_eq_true.mp c _ ht
  rw [Bool.and_eq_true] at c
  have hr' := of_decide_eq_true c.1
  have hn' := beq_iff_eq.mp c.2
  have ef : (vecs p T.length).filter (zeroB (leftOf p T.length (transOf T)) p) = (vecs p T.length).filter (zeroB (transOf T) p) := List.filter_congr fun v _ => zeroB_eq hp (htk v)
  rw [ef] at hn'
  obtain ⟨o1, l1⟩ := chkO_ok hp h1 h3
  obtain ⟨o3, l3⟩ := chkO_ok hp (m := 3) (by decide) (by decide)
  have l1 := beq_iff_eq.mp l1
  have l3 := beq_iff_eq.mp l3
  have ov : ∀ {m : Nat}, chkO p m = true → ∀ x ∈ vecs p m, ((vecs p m).filter fun u => zb p (dot x u)).length = if (x.sum == 0) = true then p.toNat ^ m else p.toNat ^ (m - 1) := fun o x hx => beq_iff_eq.mp (List.all_eq_true.mp o x hx)
  have dc := swap_sum (fun v u => zb p (dot (madeOf T v p) u)) (vecs p T.length) (vecs p 3)
  have s1 : ((vecs p 3).map fun v => ((vecs p T.length).filter fun u => zb p (dot (madeOf T v p) u)).length).sum = ((vecs p 3).map fun v => if zeroB T p v = true then p.toNat ^ T.length else p.toNat ^ (T.length - 1)).sum := by
    congr 1
    exact List.map_congr_left fun v _ => ov o1 _ (mem_vecs hp h1 h3 (made_vec hp T v))
  have s2 : ((vecs p T.length).map fun u => ((vecs p 3).filter fun v => zb p (dot (madeOf T v p) u)).length).sum = ((vecs p T.length).map fun u => if zeroB (transOf T) p u = true then p.toNat ^ 3 else p.toNat ^ (3 - 1)).sum := by
    congr 1
    refine List.map_congr_left fun u _ => ?_
    have e : ((vecs p 3).filter fun v => zb p (dot (madeOf T v p) u)) = (vecs p 3).filter fun v => zb p (dot (madeOf (transOf T) u p) v) := List.filter_congr fun v _ => bil hp T u v
    rw [e]
    exact ov o3 _ (mem_vecs hp (by decide) (by decide) (made_vec hp (transOf T) u))
  rw [s1, s2, sum_if, sum_if] at dc
  have eN : (vecs p 3).filter (zeroB T p) = nothingOf T p := rfl
  rw [eN, l1, l3] at dc
  generalize hr : (leftOf p 3 T).length = r at hn
  have hr3 : r ≤ 3 := by rw [← hr]; exact hm.r3
  generalize hrr : (leftOf p T.length (transOf T)).length = r' at hn' hr'
  generalize (nothingOf T p).length = n at dc hn
  generalize ((vecs p T.length).filter (zeroB (transOf T) p)).length = n' at dc hn'
  generalize T.length = m at *
  have hmm : m = 1 ∨ m = 2 ∨ m = 3 := by lia
  have en : n = p.toNat ^ (3 - r) := by
    have : ((p.toNat ^ (3 - r) : Nat) : Int) = p ^ (3 - r) := by
      rcases hp with rfl | rfl | rfl <;> simp
    lia
  have en' : n' = p.toNat ^ (m - r') := by
    have : ((p.toNat ^ (m - r') : Nat) : Int) = p ^ (m - r') := by
      rcases hp with rfl | rfl | rfl <;> simp
    omega
  rw [en, en'] at dc
  refine num_key p.toNat ?_ m ?_ r (by lia) r' (by omega) hr' dc
  · rcases hp with rfl | rfl | rfl <;> decide
  · rcases hmm with rfl | rfl | rfl <;> decide

theorem law_ok {p : Int} (hp : PrimeOk p) {T : List (List Int)} (h1 : 1 ≤ T.length) (h3 : T.length ≤ 3) (hT : Bd p 3 T) : LawOk T p := by
  have hmem := left_mem hp (by decide) (by decide) hT
  have o := rrOk hp hmem
  have hk := (leftOf_shape hp (by decide) hT).2
  have ek := ker_list hp hk
  have n := o.nul
  have c1 := o.c1
  have c2 := o.c2
  rw [ek] at n c1 c2
  exact {
    rank3 := o.r3
    cnts := fun t ht => cnt_one hp ht
    nul := n
    img := img_len hp o.r3 n
    srt := mades_srt
    lenM := fun t ht => by
      obtain ⟨v, _, rfl⟩ := ((mades_ok T p (everyOf p)).2 t).mp ht
      exact List.length_map ..
    ker := ek
    beg1 := o.b1
    beg2 := o.b2
    piv := o.pv
    trn := rank_trans hp h1 h3 hT
    rev := left_rev hp hT
    clo1 := c1
    clo2 := c2 }
end Mine
namespace Mine
section
variable {g : Heap} {prog : Program} {w : World} {A : Around} {mg mb : Str → Option Value}
theorem law_body {B W : Wld g} {L fa : Addr} {cd : Value} {m : Str → Option Value} {cm : Addr → Option Value} {s : Shared} {Q : Flow → Shared → Prop} {E : Value → Shared → Prop} {S : List Int} {vs : Value} (H : Gd g mg mb) (N : LawF g mg) (hA : Ok 20 A) (hs : s.heap = W.h) (F : FS B W (lawEnv L fa cd) (lawOwn L) m cm) (hms : m "script" = some vs) (is : IsV W.F vs (LI S)) (hS : S.length ≤ 63)
    (k : ∀ (W' : Wld g) tk, B.Le W' → Q (.ret (.bool true)) { s with heap := W'.h, toks := tk }) : wpAny (model prog w) A (execs (bodyOf (fdef 14)) (lawEnv L fa cd)) Q E s := by
  have hp := pOf_ok S
  have hT := tabOf_bd S
  have hl := tabOf_len S
  have hm := manyOf_bd S
  have h1 : 1 ≤ (tabOf S).length := by lia
  have h3 : (tabOf S).length ≤ 3 := by omega
  have hT1 : tabOf S ≠ [] := fun q => by rw [q] at h1; exact absurd h1 (by decide)
  have K := law_ok hp h1 h3 hT
  refine law_A1 H N hA hs F hms is hS fun W₁ m₁ cm₁ tk₁ F₁ pr tb => ?_
  refine law_A2 H N hA rfl F₁ hp hT hT1 h3 pr tb fun W₂ m₂ cm₂ tk₂ F₂ I₂ => ?_
  refine law_B H N hA rfl F₂ hp hT h3 I₂ fun W₃ m₃ cm₃ tk₃ F₃ I₃ => ?_
  refine law_C1 H N hA rfl F₃ hp hT hT1 h3 K I₃ fun W₄ tk₄ F₄ I₄ => ?_
  refine law_C2 H N hA rfl F₄ hp hT K I₄ fun W₅ cm₅ tk₅ F₅ I₅ => ?_
  refine law_D1 H N hA rfl F₅ hp hT hT1 h3 K I₅ fun W₆ m₆ tk₆ F₆ I₆ => ?_
  exact law_D2 H N hA rfl F₆ hp K I₆ fun W₇ tk₇ l => k W₇ tk₇ l
theorem code_law {W : Wld g} {fa : Addr} {cd : Value} {s : Shared} {R : Result → Shared → Prop} {S : List Int} {vs : Value} (H : Gd g mg mb) (N : LawF g mg) (hA : Ok 21 A) (hs : s.heap = W.h) (fn : FnAt g fa "law" (fdef 14) cd) (is : IsV W.F vs (LI S)) (hS : S.length ≤ 63)
    (k : ∀ (W' : Wld g) tk, W.Le W' → R (.ok (.ret (.bool true))) { s with heap := W'.h, toks := tk }) : codeAny (model prog w) A (.call (.ref fa) ⟨[vs], []⟩) R s := by
  obtain ⟨⟨o, pm, doc, ho, hd⟩, hcd⟩ := fn
  have up : ∀ b o, g.get? b = some o → s.heap.get? b = some o := fun b o e => by rw [hs]; exact W.old e
  refine call_cells_ret (name := "law") (params := paramsOf (fdef 14)) (body := bodyOf (fdef 14)) (scope := scopeOf (fdef 14)) (pm := pm) (cd := cd) (doc := doc) (a := fa) (o := o) (binds := [("script", vs)])
    (by have := hA.dp; lia) (up _ _ ho) hd (H.nl.keeps up) (hcd.keeps up) (by rfl) (List.forall_mem_cons.mpr ⟨.inl (by rfl), fun _ h => nomatch h⟩) (fun h₁ tk F X => ?_) (by rfl) (by rfl) (by rfl)
  have kp : ∀ b o, W.h.get? b = some o → h₁.get? b = some o := fun b o e => F.keep b o (by rw [hs]; exact e)
  let W₁ := W.grow h₁ kp
  have l₁ : W.Le W₁ := W.grow_le h₁ kp
  have out : ∀ b, s.heap.objs.size ≤ b → W.h.get? b = none := fun b hb => W.new_none (by rw [← hs]; exact hb)
  have lks : ∀ p ∈ cellsFrom (s.heap.objs.size + 1) (scopeOf (fdef 14)).names [], (cellsFrom (s.heap.objs.size + 1) (scopeOf (fdef 14)).names []).lookup p.1 = some p.2 := by
    have go : ∀ L : Addr, ∀ p ∈ cellsFrom (L + 1) (scopeOf (fdef 14)).names [], (cellsFrom (L + 1) (scopeOf (fdef 14)).names []).lookup p.1 = some p.2 := fun L =>
      List.forall_mem_cons.mpr ⟨by rfl, List.forall_mem_cons.mpr ⟨by rfl, List.forall_mem_cons.mpr ⟨by rfl, List.forall_mem_cons.mpr ⟨by rfl, List.forall_mem_cons.mpr ⟨by rfl, List.forall_mem_cons.mpr ⟨by rfl, List.forall_mem_cons.mpr ⟨by rfl, List.forall_mem_cons.mpr ⟨by rfl, List.forall_mem_cons.mpr ⟨by rfl, fun _ h => nomatch h⟩⟩⟩⟩⟩⟩⟩⟩⟩
    exact go _
  have FF : FS W W₁ (lawEnv s.heap.objs.size fa cd) (lawOwn s.heap.objs.size) (bindL (envOfC "law" (scopeOf (fdef 14)) s.heap.objs.size fa cd).kindOf [("script", vs)] fun _ => none)
      (cmA (cellsFrom (s.heap.objs.size + 1) (scopeOf (fdef 14)).names []) (bindC (envOfC "law" (scopeOf (fdef 14)) s.heap.objs.size fa cd).kindOf [("script", vs)] fun _ => none)) := by
    refine ⟨l₁, F.ns, Wld.F_none (W := W) (out _ (Nat.le_refl _)), out _ (Nat.le_refl _), fun c hc => ?_⟩
    have hc' : c ∈ (cellsFrom (s.heap.objs.size + 1) (scopeOf (fdef 14)).names []).map (·.2) := hc
    obtain ⟨p, hp, rfl⟩ := List.mem_map.mp hc'
    have lk := lks p hp
    have lt := X.above p.1 p.2 hp
    rw [cmA_at X.apart lk]
    exact ⟨X.cell _ _ lk, Wld.F_none (W := W) (out _ (Nat.le_of_lt lt)), out _ (Nat.le_of_lt lt)⟩
  refine law_body (L := s.heap.objs.size) (s := { s with heap := h₁, toks := tk }) H N hA.deeper rfl FF (by rfl) (is.le l₁) hS fun W' tk' l => k W' tk' l
end
end Mine
namespace Mine
set_option maxHeartbeats 8000000
open_top hd for PySem.Challenge.rw_hv0003_01
end Mine
namespace Mine
set_option maxHeartbeats 8000000
abbrev tabs0 : List (Addr × Addr) := [(41, 37), (34, 30)]
theorem top_mg {p : Params} {h : Heap} {mg : Str → Option Value} (K : (hd.heap_39 p).In h) (T : h.Ns mainGlobals mg) (n : Str) (v : Value) (e : (match (hd.heap_39 p).lookup 3 with | some ⟨_, _, .dict es _, _⟩ => nsFind es n | _ => none) = some v) : mg n = some v := by
  obtain ⟨o, es, ep, eo, d, _, f⟩ := T
  have e3 := K 3 _ rfl
  have : o = _ := Option.some.inj (eo.symm.trans e3)
  subst this
  cases d
  rw [← f n]
  exact e
theorem top_none {p : Params} {h : Heap} {mg : Str → Option Value} (K : (hd.heap_39 p).In h) (T : h.Ns mainGlobals mg) (n : Str) (e : (match (hd.heap_39 p).lookup 3 with | some ⟨_, _, .dict es _, _⟩ => nsFind es n | _ => some .none) = none) : mg n = none := by
  obtain ⟨o, es, ep, eo, d, _, f⟩ := T
  have e3 := K 3 _ rfl
  have : o = _ := Option.some.inj (eo.symm.trans e3)
  subst this
  cases d
  rw [← f n]
  exact e
theorem lawF {p : Params} {h : Heap} {mg : Str → Option Value} (K : (hd.heap_39 p).In h) (T : h.Ns mainGlobals mg) (h4 : CodeHd h 34 30) (h5 : CodeHd h 41 37) : Nonempty (LawF h mg) :=
  ⟨{ a2 := 21, a4 := 35, a5 := 42, a6 := 49, a7 := 56, c2 := .ref 20, c4 := 34, c5 := 41, c6 := .ref 48, c7 := .ref 55, tl := 189
     f2 := ⟨⟨_, _, _, K 21 _ rfl, rfl⟩, 20, _, _, _, rfl, K 20 _ rfl, rfl, rfl⟩
     f4 := ⟨⟨_, _, _, K 35 _ rfl, rfl⟩, 34, _, _, _, rfl, K 34 _ rfl, rfl, rfl⟩
     f5 := ⟨⟨_, _, _, K 42 _ rfl, rfl⟩, 41, _, _, _, rfl, K 41 _ rfl, rfl, rfl⟩
     f6 := ⟨⟨_, _, _, K 49 _ rfl, rfl⟩, 48, _, _, _, rfl, K 48 _ rfl, rfl, rfl⟩
     f7 := ⟨⟨_, _, _, K 56 _ rfl, rfl⟩, 55, _, _, _, rfl, K 55 _ rfl, rfl, rfl⟩
     h4 := h4
     h5 := h5
     m2 := top_mg K T _ _ rfl
     m4 := top_mg K T _ _ rfl
     m5 := top_mg K T _ _ rfl
     m6 := top_mg K T _ _ rfl
     m7 := top_mg K T _ _ rfl
     ml := top_mg K T _ _ rfl
     nd := top_none K T _ rfl
     nl := top_none K T _ rfl
     nr := top_none K T _ rfl
     ab := 74, ai := 65, dVb := .ref 66, kVb := .ref 67, pmb := _, cdb := .ref 73, docb := _, dVi := .ref 57, kVi := .ref 58, pmi := _, cdi := .ref 64, doci := _, tb := 284, ti := 271
     fb := ⟨⟨_, K 74 _ rfl, rfl⟩, 73, _, _, _, rfl, K 73 _ rfl, rfl, rfl⟩
     fi := ⟨⟨_, K 65 _ rfl, rfl⟩, 64, _, _, _, rfl, K 64 _ rfl, rfl, rfl⟩
     bb2 := fun va vx s up => kp_binds (K := hd.heap_39 p) (fun a o e => up a o (K a o e)) fun _ => rfl
     bb4 := fun va vx t s up => kp_binds (K := hd.heap_39 p) (fun a o e => up a o (K a o e)) fun _ => rfl
     bi2 := fun va vx s up => kp_binds (K := hd.heap_39 p) (fun a o e => up a o (K a o e)) fun _ => rfl
     mb := top_mg K T _ _ rfl
     mi := top_mg K T _ _ rfl
     aL := 79, aM := 84, cL := .ref 78, cM := .ref 83
     fL := ⟨⟨_, _, _, K 79 _ rfl, rfl⟩, 78, _, _, _, rfl, K 78 _ rfl, rfl, rfl⟩
     fM := ⟨⟨_, _, _, K 84 _ rfl, rfl⟩, 83, _, _, _, rfl, K 83 _ rfl, rfl, rfl⟩
     mL := top_mg K T _ _ rfl
     mM := top_mg K T _ _ rfl
     ns := top_none K T _ rfl
     ng := top_none K T _ rfl
     nt := top_none K T _ rfl
     no := top_none K T _ rfl
     ni := top_none K T _ rfl
     nli := top_none K T _ rfl }⟩
end Mine
namespace Mine
set_option maxHeartbeats 8000000
theorem fin {w : World} {s₀ s₁ : Shared} {mg mb : Str → Option Value} {fa l : Addr} {vs : List Value} {S : List Int} {ls : List Str}
    (KX : (hd.heap_39 w.params).In s₁.heap) (T : Top hd.view_39 ls (ExcName.means s₀.heap) mg mb s₁.heap) (hT9 : TabsAt [(41, 37), (34, 30)] s₁.heap) (hmg : mg "law" = some (.ref fa)) (hg : s₁.gens = #[]) (hL : s₁.heap.IsList l vs.toArray) (hI : IntsAre vs S) (hc : ¬ (63 : Int) < S.length) :
    codeAny (model Challenge.rw_hv0003_01.row.prog w) callerA (.call (.ref fa) ⟨[.ref l], []⟩)
      (fun r s' => GoodW Challenge.rw_hv0003_01.row.claim (classAt s₀.heap) (ExcName.means s₀.heap) [ofPy (.list (S.map .int))] { s₁ with heap := ghostOf s₁.heap [(41, 37), (34, 30)] } r s' ∧ GrownAll [(41, 37), (34, 30)] s'.heap) s₁ := by
  have Tg := ghost_top hT9 T
  have KG : (hd.heap_39 w.params).In (ghostOf s₁.heap [(41, 37), (34, 30)]) := ghost_K hT9 KX (by rfl)
  have CA := ghost_code hT9
  have hfa : fa = 89 := by
    have e := top_mg KX T.g "law" (.ref 89) rfl
    rw [hmg] at e
    cases e; rfl
  subst hfa
  obtain ⟨N⟩ := lawF KG Tg.g CA.2.1 CA.1
  have H : Gd (ghostOf s₁.heap [(41, 37), (34, 30)]) mg mb := ⟨Tg.g, Tg.b, fun n hn => Tg.builtins n hn, Tg.nolimit, Tg.bmain⟩
  let W₀ : Wld (ghostOf s₁.heap [(41, 37), (34, 30)]) := {
    F := fun a => (ghostOf s₁.heap [(41, 37), (34, 30)]).get? a
    h := s₁.heap
    inn := fun a o e => of_hideAll _ e
    base := fun a o e => e
    off := ⟨hideAll_none _ (by simp), hideAll_none _ (by simp)⟩
    tab := ⟨⟨#[], (hT9 (34, 30) (by simp)).2, .inl rfl⟩, ⟨#[], (hT9 (41, 37) (by simp)).2, .inl rfl⟩⟩ }
  have fn : FnAt (ghostOf s₁.heap [(41, 37), (34, 30)]) 89 "law" (fdef 14) (.ref 88) := ⟨⟨_, _, _, KG 89 _ rfl, rfl⟩, 88, _, _, _, rfl, KG 88 _ rfl, rfl, rfl⟩
  obtain ⟨oL, eL, cL, nL, dL⟩ := ghost_list hT9 hL
  have is : IsV W₀.F (.ref l) (LI S) := .list eL cL dL (by simpa using IsVs.ofInts (F := W₀.F) hI)
  have hA : Ok 21 callerA := ⟨rfl, by decide, by decide⟩
  refine code_law (W := W₀) H N hA rfl fn is (by omega) fun W' tk lW => ⟨⟨.inl ⟨.bool true, .bool true, [], rfl, fun cls => ?_, .bool true, ?_, fun _ => ⟨List.nodup_nil, fun _ h => nomatch h⟩⟩, fun b o e => ?_, rfl, hg⟩, ?_⟩
  · with_unfolding_all rfl
  · with_unfolding_all rfl
  · exact W'.old e
  · obtain ⟨p1, e1, _⟩ := W'.tab.1
    obtain ⟨p2, e2, _⟩ := W'.tab.2
    exact ⟨⟨p2, e2⟩, ⟨p1, e1⟩, trivial⟩

theorem t1 : PySem.Challenge.rw_hv0003_01.Holds := hd (by
  k_fill
  intro w s₀ s₁ mg mb G Y fa o pm cd doc dV kV ho hd hcd hD hmg hg args vals as hpre hlay hrd hwl hlo
  have KX := km_in_of Y
  km_tabs Y
  have X := (Ground.X G).1
  have V := (Ground.X G).2
  refine Ground.open G ?_
  intro T B D TE TW
  try (refine guard_noD D (by decide +kernel) ?_; clear D)
  have hmg2 := hmg
  km_lay T hmg ho hd cd
  clear hmg
  wrow_args hpre hlay hrd hwl hlo
  refine enter_call ?_
  w_top on
  kn_posts
  exact fin KX T hT9 hmg2 hg ‹_› ‹_› ‹_›)
end Mine

theorem PySem.Challenge.cw_hv0003_01_holds : PySem.Challenge.rw_hv0003_01.Holds := by
  exact Mine.t1
