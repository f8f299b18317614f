import PyProof.Rows.All
import Wide.All
import OpenK.AllK
import Wide.FinOn
import PySem.Challenge.RW_ux0018_01
open PySem PySem.W PyProof.Rows
set_option Elab.async false
set_option linter.all false
set_option linter.unusedVariables false
namespace Mine
set_option maxRecDepth 100000 in
set_option maxHeartbeats 8000000 in
open_top hd for PySem.Challenge.rw_ux0018_01

/-- what every step reads: the program, the world, the heap behind the top, its names -/
structure Gd where
  prog : Program
  w : World
  h₀ : Heap
  K : Frag
  mg : Str → Option Value
  mb : Str → Option Value
  X : K.In h₀
  g : h₀.Ns mainGlobals mg
  b : h₀.Ns builtinsNs mb
  lim : h₀.NoLimit
  bi : ∀ x : Str, x ≠ "__name__" → mb x = bootBuiltins x

inductive PV where
  | int (i : Int)
  | str (s : Str)
  | bool (b : Bool)
  | none
  | ref (n : Nat)
  | glob (v : Value)

/-- the names' values, place by place as the scope lists its names; none: not known -/
noncomputable abbrev Mem := List (Option PV)
noncomputable abbrev Hp := List (List PV)

inductive CV (ρ : List Addr) : PV → Value → Prop
  | int (i : Int) (t : Tok) : CV ρ (.int i) (.int i t)
  | str (s : Str) (t : Tok) : CV ρ (.str s) (.str s t)
  | bool (b : Bool) : CV ρ (.bool b) (.bool b)
  | none : CV ρ .none .none
  | ref {n : Nat} {a : Addr} : ρ[n]? = some a → CV ρ (.ref n) (.ref a)
  | glob (v : Value) : CV ρ (.glob v) v

inductive CVs (ρ : List Addr) : List PV → List Value → Prop
  | nil : CVs ρ [] []
  | cons {p : PV} {v : Value} {ps : List PV} {vs : List Value} : CV ρ p v → CVs ρ ps vs → CVs ρ (p :: ps) (v :: vs)

theorem CV.intE {ρ : List Addr} {i : Int} {v : Value} (h : CV ρ (.int i) v) : ∃ t, v = .int i t := by cases h; exact ⟨_, rfl⟩
theorem CV.strE {ρ : List Addr} {x : Str} {v : Value} (h : CV ρ (.str x) v) : ∃ t, v = .str x t := by cases h; exact ⟨_, rfl⟩
theorem CV.refE {ρ : List Addr} {n : Nat} {v : Value} (h : CV ρ (.ref n) v) : ∃ a, v = .ref a ∧ ρ[n]? = some a := by cases h with | ref e => exact ⟨_, rfl, e⟩
theorem CV.boolE {ρ : List Addr} {b : Bool} {v : Value} (h : CV ρ (.bool b) v) : v = .bool b := by cases h; rfl
theorem CV.noneE {ρ : List Addr} {v : Value} (h : CV ρ .none v) : v = .none := by cases h; rfl
theorem CV.globE {ρ : List Addr} {w v : Value} (h : CV ρ (.glob w) v) : v = w := by cases h; rfl
theorem CVs.nilE {ρ : List Addr} {vs : List Value} (h : CVs ρ [] vs) : vs = [] := by cases h; rfl
theorem CVs.consE {ρ : List Addr} {p : PV} {ps : List PV} {vs : List Value} (h : CVs ρ (p :: ps) vs) : ∃ v us, vs = v :: us ∧ CV ρ p v ∧ CVs ρ ps us := by cases h with | cons a b => exact ⟨_, _, rfl, a, b⟩
theorem CVs.one {ρ : List Addr} {p : PV} {vs : List Value} (h : CVs ρ [p] vs) : ∃ v, vs = [v] ∧ CV ρ p v := by
  obtain ⟨v, us, rfl, a, h⟩ := h.consE
  exact ⟨v, by rw [h.nilE], a⟩
theorem CVs.two {ρ : List Addr} {p q : PV} {vs : List Value} (h : CVs ρ [p, q] vs) : ∃ v u, vs = [v, u] ∧ CV ρ p v ∧ CV ρ q u := by
  obtain ⟨v, us, rfl, a, h⟩ := h.consE
  obtain ⟨u, rfl, b⟩ := h.one
  exact ⟨v, u, rfl, a, b⟩
theorem CVs.three {ρ : List Addr} {p q r : PV} {vs : List Value} (h : CVs ρ [p, q, r] vs) : ∃ v u w, vs = [v, u, w] ∧ CV ρ p v ∧ CV ρ q u ∧ CV ρ r w := by
  obtain ⟨v, us, rfl, a, h⟩ := h.consE
  obtain ⟨u, w, rfl, b, c⟩ := h.two
  exact ⟨v, u, w, rfl, a, b, c⟩

theorem prefix_get {α : Type} {l l' : List α} {n : Nat} {a : α} (h : l <+: l') (e : l[n]? = some a) : l'[n]? = some a := by
  obtain ⟨r, rfl⟩ := h
  obtain ⟨hn, e'⟩ := List.getElem?_eq_some_iff.mp e
  rw [List.getElem?_append_left hn]
  exact e

theorem nodup_inj {l : List Addr} (h : l.Nodup) : ∀ {i j : Nat} {a : Addr}, l[i]? = some a → l[j]? = some a → i = j := by
  induction l with
  | nil => intro i j a e; cases e
  | cons x r ih =>
    intro i j a e1 e2
    obtain ⟨hx, hr⟩ := List.nodup_cons.mp h
    cases i with
    | zero =>
      cases j with
      | zero => rfl
      | succ j =>
        simp at e1 e2
        subst e1
        exact absurd (List.mem_of_getElem? e2) hx
    | succ i =>
      cases j with
      | zero =>
        simp at e1 e2
        subst e2
        exact absurd (List.mem_of_getElem? e1) hx
      | succ j => exact congrArg (· + 1) (ih hr (a := a) (by simpa using e1) (by simpa using e2))

theorem CV.mono {ρ ρ' : List Addr} {p : PV} {v : Value} (h : CV ρ p v) (hp : ρ <+: ρ') : CV ρ' p v := by
  cases h with
  | int i t => exact .int i t
  | str s t => exact .str s t
  | bool b => exact .bool b
  | none => exact .none
  | ref e => exact .ref (prefix_get hp e)
  | glob v => exact .glob v

theorem CVs.mono {ρ ρ' : List Addr} {ps : List PV} {vs : List Value} (h : CVs ρ ps vs) (hp : ρ <+: ρ') : CVs ρ' ps vs := by
  induction h with
  | nil => exact .nil
  | cons h _ ih => exact .cons (h.mono hp) ih

theorem CVs.length {ρ : List Addr} {ps : List PV} {vs : List Value} (h : CVs ρ ps vs) : vs.length = ps.length := by
  induction h with
  | nil => rfl
  | cons _ _ ih => simp [ih]

theorem CVs.append {ρ : List Addr} {ps qs : List PV} {vs us : List Value} (h : CVs ρ ps vs) (h' : CVs ρ qs us) : CVs ρ (ps ++ qs) (vs ++ us) := by
  induction h with
  | nil => exact h'
  | cons a _ ih => exact .cons a ih

theorem CVs.get {ρ : List Addr} {ps : List PV} {vs : List Value} (h : CVs ρ ps vs) {i : Nat} {p : PV} (e : ps[i]? = some p) : ∃ v, vs[i]? = some v ∧ CV ρ p v := by
  induction h generalizing i with
  | nil => cases e
  | cons a _ ih =>
    cases i with
    | zero => simp at e; subst e; exact ⟨_, rfl, a⟩
    | succ i => simpa using ih (by simpa using e)

theorem CVs.drop {ρ : List Addr} {ps : List PV} {vs : List Value} (h : CVs ρ ps vs) : ∀ n, CVs ρ (ps.drop n) (vs.drop n) := by
  induction h with
  | nil => intro n; simpa using CVs.nil
  | cons a b ih => intro n; cases n with
    | zero => exact .cons a b
    | succ n => exact ih n
theorem CVs.take {ρ : List Addr} {ps : List PV} {vs : List Value} (h : CVs ρ ps vs) : ∀ n, CVs ρ (ps.take n) (vs.take n) := by
  induction h with
  | nil => intro n; simpa using CVs.nil
  | cons a b ih => intro n; cases n with
    | zero => exact .nil
    | succ n => exact .cons a (ih n)
/-- a tracked list at an address -/
noncomputable def LAt (ρ : List Addr) (h : Heap) (a : Addr) (xs : List PV) : Prop := ∃ vs n, h.get? a = some (listOf (List.toArray vs) n) ∧ CVs ρ xs vs

/-- the tracked part of the heap -/
structure Rel0 (G : Gd) (ρ : List Addr) (H : Hp) (s : Shared) : Prop where
  keep : ∀ b o, G.h₀.get? b = some o → s.heap.get? b = some o
  len : ρ.length = H.length
  objs : ∀ (i : Nat) (xs : List PV), H[i]? = some xs → ∃ a, ρ[i]? = some a ∧ LAt ρ s.heap a xs
  nodup : ρ.Nodup
  fresh : ∀ a ∈ ρ, G.h₀.get? a = none
  bare : ∀ x ∈ s.gens, x.bare = true

/-- what a run changes: the tracked lists and what W says -/
structure Stp (W : Addr → Prop) (ρ : List Addr) (s : Shared) (ρ' : List Addr) (s' : Shared) : Prop where
  pre : ρ <+: ρ'
  new : ∀ a ∈ ρ', a ∈ ρ ∨ s.heap.get? a = none
  frame : ∀ b o, ¬ W b → b ∉ ρ → s.heap.get? b = some o → s'.heap.get? b = some o
  os : s'.os = s.os
  gsz : s.gens.size ≤ s'.gens.size
  gen : ∀ i, i < s.gens.size → s'.gens[i]? = s.gens[i]?

/-- a frame's names -/
structure Fra (G : Gd) (env : Env) (ρ : List Addr) (m : Mem) (s : Shared) : Prop where
  above : G.h₀.get? env.locals = none
  ns : ∃ mc, s.heap.Ns env.locals mc ∧ ∀ (i : Nat) (x : Str) (v : PV), env.scope.names[i]? = some (x, .local) → m[i]? = some (some v) → ∃ cv, mc x = some cv ∧ CV ρ v cv
  cel : ∀ (i : Nat) (x : Str) (k : NameKind) (v : PV), env.scope.names[i]? = some (x, k) → (k = .cell ∨ k = .free) → m[i]? = some (some v) → ∃ c cv, env.cells.lookup x = some c ∧ s.heap.IsCell c (some cv) ∧ CV ρ v cv
  cok : ∀ x c, (x, c) ∈ env.cells → G.h₀.get? c = none ∧ c ≠ env.locals ∧ c ∉ ρ ∧ ∃ v, s.heap.IsCell c v
  off : env.locals ∉ ρ

noncomputable def Own (env : Env) (b : Addr) : Prop := b = env.locals ∨ ∃ x, (x, b) ∈ env.cells

structure Rel (G : Gd) (env : Env) (ρ : List Addr) (m : Mem) (H : Hp) (s : Shared) : Prop extends Rel0 G ρ H s, Fra G env ρ m s

theorem Stp.refl (W : Addr → Prop) (ρ : List Addr) (s : Shared) : Stp W ρ s ρ s :=
  ⟨List.prefix_refl _, fun _ h => .inl h, fun _ _ _ _ e => e, rfl, Nat.le_refl _, fun _ _ => rfl⟩

theorem Fra.alive {G : Gd} {env : Env} {ρ : List Addr} {m : Mem} {s : Shared} (F : Fra G env ρ m s) {b : Addr} (h : Own env b) : ∃ o, s.heap.get? b = some o := by
  rcases h with rfl | ⟨x, h⟩
  · obtain ⟨mc, ⟨o, _, _, ho, _⟩, _⟩ := F.ns
    exact ⟨o, ho⟩
  · obtain ⟨_, _, _, v, o, ho, _⟩ := F.cok x b h
    exact ⟨o, ho⟩

theorem Stp.trans {W : Addr → Prop} {ρ₁ ρ₂ ρ₃ : List Addr} {s₁ s₂ s₃ : Shared} (a : Stp W ρ₁ s₁ ρ₂ s₂) (b : Stp W ρ₂ s₂ ρ₃ s₃) (alive : ∀ b, W b → s₁.heap.get? b ≠ none → ∃ o, s₂.heap.get? b = some o) : Stp W ρ₁ s₁ ρ₃ s₃ := by
  refine ⟨a.pre.trans b.pre, fun x hx => ?_, fun x o hw hx e => ?_, b.os.trans a.os, Nat.le_trans a.gsz b.gsz, fun i hi => (b.gen i (Nat.lt_of_lt_of_le hi a.gsz)).trans (a.gen i hi)⟩
  · rcases b.new x hx with h | h
    · exact a.new x h
    · by_cases hr : x ∈ ρ₁
      · exact .inl hr
      · refine .inr ?_
        cases e : s₁.heap.get? x with
        | none => rfl
        | some o =>
          exfalso
          by_cases hw : W x
          · obtain ⟨o', h'⟩ := alive x hw (by rw [e]; exact fun z => nomatch z)
            rw [h] at h'; cases h'
          · have := a.frame x o hw hr e
            rw [h] at this; cases this
  · refine b.frame x o hw (fun hm => ?_) (a.frame x o hw hx e)
    rcases a.new x hm with h | h
    · exact hx h
    · rw [e] at h; cases h

theorem Rel.trans {G : Gd} {env : Env} {ρ₁ ρ₂ ρ₃ : List Addr} {s₁ s₂ s₃ : Shared} {m : Mem} {H : Hp} (a : Stp (Own env) ρ₁ s₁ ρ₂ s₂) (R : Rel G env ρ₂ m H s₂) (b : Stp (Own env) ρ₂ s₂ ρ₃ s₃) : Stp (Own env) ρ₁ s₁ ρ₃ s₃ :=
  a.trans b fun _ h _ => R.toFra.alive h

/-- the frame stays where none of it is written -/
theorem Fra.of_stp {G : Gd} {env : Env} {ρ ρ' : List Addr} {m : Mem} {s s' : Shared} (F : Fra G env ρ m s) (S : Stp (fun _ => False) ρ s ρ' s') : Fra G env ρ' m s' := by
  have up : ∀ b, Own env b → b ∉ ρ := fun b h => by
    rcases h with rfl | ⟨x, h⟩
    · exact F.off
    · exact (F.cok x b h).2.2.1
  have fr : ∀ b o, Own env b → s.heap.get? b = some o → s'.heap.get? b = some o := fun b o h e => S.frame b o (fun z => z) (up b h) e
  have noff : ∀ b, Own env b → b ∉ ρ' := fun b h hm => by
    rcases S.new b hm with h' | h'
    · exact up b h h'
    · obtain ⟨o, ho⟩ := F.alive h
      rw [ho] at h'; cases h'
  refine ⟨F.above, ?_, fun i x k v hx hk hm => ?_, fun x c hc => ?_, noff _ (.inl rfl)⟩
  · obtain ⟨mc, hn, hm⟩ := F.ns
    exact ⟨mc, hn.at' fun o e => fr _ o (.inl rfl) e, fun i x v hx hk => let ⟨cv, e, h⟩ := hm i x v hx hk; ⟨cv, e, h.mono S.pre⟩⟩
  · obtain ⟨c, cv, hl, ⟨o, ho, hd⟩, hv⟩ := F.cel i x k v hx hk hm
    exact ⟨c, cv, hl, ⟨o, fr c o (.inr ⟨x, mem_of_lookup hl⟩) ho, hd⟩, hv.mono S.pre⟩
  · obtain ⟨h1, h2, h3, v, o, ho, hd⟩ := F.cok x c hc
    exact ⟨h1, h2, noff c (.inr ⟨x, hc⟩), v, o, fr c o (.inr ⟨x, hc⟩) ho, hd⟩
where
  mem_of_lookup {x : Str} {c : Addr} : ∀ {l : List (Str × Addr)}, l.lookup x = some c → (x, c) ∈ l
    | (y, d) :: r, h => by
      rw [List.lookup_cons] at h
      by_cases hy : x == y
      · simp only [hy] at h
        have : x = y := by simpa using hy
        cases h; subst this; exact .head _
      · simp only [hy] at h
        exact .tail _ (mem_of_lookup h)

theorem Stp.widen {W : Addr → Prop} {ρ ρ' : List Addr} {s s' : Shared} (S : Stp (fun _ => False) ρ s ρ' s') : Stp W ρ s ρ' s' :=
  ⟨S.pre, S.new, fun b o _ h e => S.frame b o (fun z => z) h e, S.os, S.gsz, S.gen⟩

/-- things made and dropped: only the heap grows -/
theorem Rel0.grow {G : Gd} {ρ : List Addr} {H : Hp} {s : Shared} (R : Rel0 G ρ H s) {h' : Heap} {tk : Nat} (hk : ∀ b o, s.heap.get? b = some o → h'.get? b = some o) :
    Rel0 G ρ H { s with heap := h', toks := tk } ∧ Stp (fun _ => False) ρ s ρ { s with heap := h', toks := tk } :=
  ⟨⟨fun b o e => hk b o (R.keep b o e), R.len, fun i xs e => let ⟨a, ha, vs, n, hg, hc⟩ := R.objs i xs e; ⟨a, ha, vs, n, hk _ _ hg, hc⟩, R.nodup, R.fresh, R.bare⟩,
   ⟨List.prefix_refl _, fun _ h => .inl h, fun b o _ _ e => hk b o e, rfl, Nat.le_refl _, fun _ _ => rfl⟩⟩

/-- a new tracked list -/
theorem Rel0.alloc {G : Gd} {ρ : List Addr} {H : Hp} {s : Shared} (R : Rel0 G ρ H s) {h' : Heap} {tk : Nat} {a : Addr} {xs : List PV} {vs : List Value} {n : Nat} (hk : ∀ b o, s.heap.get? b = some o → h'.get? b = some o)
    (hn : s.heap.get? a = none) (ha : h'.get? a = some (listOf (List.toArray vs) n)) (hv : CVs ρ xs vs) :
    Rel0 G (ρ ++ [a]) (H ++ [xs]) { s with heap := h', toks := tk } ∧ Stp (fun _ => False) ρ s (ρ ++ [a]) { s with heap := h', toks := tk } ∧ CV (ρ ++ [a]) (.ref H.length) (.ref a) := by
  have pre : ρ <+: ρ ++ [a] := List.prefix_append _ _
  have hnot : a ∉ ρ := fun hm => by
    obtain ⟨i, hi, e⟩ := List.getElem_of_mem hm
    have hiH : i < H.length := by rw [← R.len]; exact hi
    obtain ⟨b, hb, us, k, hg, _⟩ := R.objs i H[i] (by simp [hiH])
    have : ρ[i]? = some a := by rw [List.getElem?_eq_getElem hi, e]
    rw [this] at hb; cases hb
    rw [hn] at hg; cases hg
  refine ⟨⟨fun b o e => hk b o (R.keep b o e), by simp [R.len], fun i ys e => ?_, ?_, fun b hb => ?_, R.bare⟩, ⟨pre, fun b hb => ?_, fun b o _ _ e => hk b o e, rfl, Nat.le_refl _, fun _ _ => rfl⟩, .ref ?_⟩
  · by_cases hi : i < H.length
    · rw [List.getElem?_append_left hi] at e
      obtain ⟨b, hb, us, k, hg, hc⟩ := R.objs i ys e
      exact ⟨b, prefix_get pre hb, us, k, hk _ _ hg, hc.mono pre⟩
    · have hi' : i = H.length := by
        have := (List.getElem?_eq_some_iff.mp e).1
        rw [List.length_append, List.length_singleton] at this
        (first | lia | omega)
      subst hi'
      have : ys = xs := by simpa using e.symm
      subst this
      exact ⟨a, by rw [← R.len]; simp, vs, n, ha, hv.mono pre⟩
  · rw [List.nodup_append]
    exact ⟨R.nodup, by simp, fun x hx y hy => by rw [List.mem_singleton.mp hy]; exact fun q => hnot (q ▸ hx)⟩
  · rcases List.mem_append.mp hb with h | h
    · exact R.fresh b h
    · rw [List.mem_singleton.mp h]
      cases q : G.h₀.get? a with
      | none => rfl
      | some o => have := R.keep a o q; rw [hn] at this; cases this
  · rcases List.mem_append.mp hb with h | h
    · exact .inl h
    · rw [List.mem_singleton.mp h]; exact .inr hn
  · rw [← R.len]; simp

/-- a tracked list changed in place -/
theorem Rel0.upd {G : Gd} {ρ : List Addr} {H : Hp} {s : Shared} (R : Rel0 G ρ H s) {h' : Heap} {tk : Nat} {i : Nat} {a : Addr} {xs : List PV} {vs : List Value} {n : Nat} (hk : ∀ b o, b ≠ a → s.heap.get? b = some o → h'.get? b = some o)
    (hi : ρ[i]? = some a) (ha : h'.get? a = some (listOf (List.toArray vs) n)) (hv : CVs ρ xs vs) :
    Rel0 G ρ (H.set i xs) { s with heap := h', toks := tk } ∧ Stp (fun _ => False) ρ s ρ { s with heap := h', toks := tk } := by
  have ham : a ∈ ρ := List.mem_of_getElem? hi
  refine ⟨⟨fun b o e => hk b o (fun q => ?_) (R.keep b o e), by simp [R.len], fun j ys e => ?_, R.nodup, R.fresh, R.bare⟩, ⟨List.prefix_refl _, fun _ h => .inl h, fun b o _ hb e => hk b o (fun q => hb (q ▸ ham)) e, rfl, Nat.le_refl _, fun _ _ => rfl⟩⟩
  · rw [q, R.fresh a ham] at e; cases e
  · by_cases hij : j = i
    · subst hij
      have hj : j < H.length := by
        have := (List.getElem?_eq_some_iff.mp hi).1
        rw [R.len] at this; exact this
      rw [List.getElem?_set_self hj] at e
      cases e
      exact ⟨a, hi, vs, n, ha, hv⟩
    · rw [List.getElem?_set_ne (Ne.symm hij)] at e
      obtain ⟨b, hb, us, k, hg, hc⟩ := R.objs j ys e
      refine ⟨b, hb, us, k, hk _ _ (fun q => hij ?_) hg, hc⟩
      subst q
      exact nodup_inj R.nodup hb hi

theorem Rel.of0 {G : Gd} {env : Env} {ρ ρ' : List Addr} {m : Mem} {H H' : Hp} {s s' : Shared} (R : Rel G env ρ m H s) (x : Rel0 G ρ' H' s' ∧ Stp (fun _ => False) ρ s ρ' s') : Rel G env ρ' m H' s' ∧ Stp (Own env) ρ s ρ' s' :=
  ⟨{ toRel0 := x.1, toFra := R.toFra.of_stp x.2 }, x.2.widen⟩

structure EnvOK (cs : Scope) (env : Env) : Prop where
  scope : env.scope = cs
  kind : cs.kind = .function
  globals : env.globals = mainGlobals
  builtins : env.builtins = builtinsNs
  co : cs.isCoroutine = false
  nd : (cs.names.map (·.1)).Nodup
  cinj : ∀ x y c, (x, c) ∈ env.cells → (y, c) ∈ env.cells → x = y
  chas : ∀ x k, (x, k) ∈ cs.names → (k = .cell ∨ k = .free) → ∃ c, env.cells.lookup x = some c

noncomputable def AOk (d : Nat) (A : Around) : Prop := A.handled = none ∧ A.depth + d < recursionLimit ∧ A.units + 8 * d + 90 < cLine
section
variable (G : Gd)
noncomputable abbrev Gd.M : Model := model G.prog G.w

/-- a piece of the machine's work, told of the abstract state -/
noncomputable def Rn (cs : Scope) (d : Nat) (m : Mem) (H : Hp) {α : Type} (t : Env → Sem α) (m' : Mem) (H' : Hp) (res : List Addr → α → Prop) : Prop :=
  ∀ (env : Env) (A : Around) (ρ : List Addr) (s : Shared) (Q : α → Shared → Prop) (E : Value → Shared → Prop), EnvOK cs env → AOk d A → Rel G env ρ m H s →
    (∀ ρ' s' a, Stp (Own env) ρ s ρ' s' → Rel G env ρ' m' H' s' → res ρ' a → Q a s') → wpAny G.M A (t env) Q E s

noncomputable def Ev (cs : Scope) (d : Nat) (m : Mem) (H : Hp) (e : Expr) (v : PV) (H' : Hp) : Prop := Rn G cs d m H (fun env => eval e env) m H' fun ρ cv => CV ρ v cv
noncomputable def Tr (cs : Scope) (d : Nat) (m : Mem) (H : Hp) (e : Expr) (b : Bool) (H' : Hp) : Prop := Rn G cs d m H (fun env => isTrue e env (eval e env)) m H' fun _ c => c = b

inductive PF where
  | next | brk | cont
  | ret (v : PV)
inductive CF (ρ : List Addr) : PF → Flow → Prop
  | next : CF ρ .next .next
  | brk : CF ρ .brk .brk
  | cont : CF ρ .cont .cont
  | ret {p : PV} {v : Value} : CV ρ p v → CF ρ (.ret p) (.ret v)

noncomputable def Es (cs : Scope) (d : Nat) (m : Mem) (H : Hp) (st : Stmt) (f : PF) (m' : Mem) (H' : Hp) : Prop := Rn G cs d m H (fun env => exec st env) m' H' fun ρ c => CF ρ f c
noncomputable def Ex (cs : Scope) (d : Nat) (m : Mem) (H : Hp) (sts : List Stmt) (f : PF) (m' : Mem) (H' : Hp) : Prop := Rn G cs d m H (fun env => execs sts env) m' H' fun ρ c => CF ρ f c

/-- a call: of the tracked part alone -/
noncomputable def Cl (d : Nat) (f : Value) (args : List PV) (H : Hp) (v : PV) (H' : Hp) : Prop :=
  ∀ (A : Around) (ρ : List Addr) (s : Shared) (cas : List Value) (Q : Value → Shared → Prop) (E : Value → Shared → Prop), AOk d A → Rel0 G ρ H s → CVs ρ args cas →
    (∀ ρ' s' cv, Stp (fun _ => False) ρ s ρ' s' → Rel0 G ρ' H' s' → CV ρ' v cv → Q cv s') → wpAny G.M A (call f cas) Q E s
end

section
variable {G : Gd} {cs : Scope} {d : Nat} {m : Mem} {H H₁ H₂ H₃ : Hp} {pos : Pos}

theorem Rel.tok {env : Env} {ρ : List Addr} {s : Shared} (R : Rel G env ρ m H s) (tk : Nat) : Rel G env ρ m H { s with toks := tk } ∧ Stp (Own env) ρ s ρ { s with toks := tk } :=
  R.of0 (R.toRel0.grow (h' := s.heap) fun _ _ e => e)

theorem Ev.const_int {i : Int} {k : Nat} : Ev G cs d m H (.Constant (.int i) k pos) (.int i) H := fun env A ρ s Q E hE hA R k' =>
  wpAny_Constant_int (k' ρ _ _ (R.tok _).2 (R.tok _).1 (.int i _))
theorem Ev.const_str {x : Str} {k : Nat} : Ev G cs d m H (.Constant (.str x) k pos) (.str x) H := fun env A ρ s Q E hE hA R k' =>
  PySem.Calls.Constant_str (k' ρ _ _ (R.tok _).2 (R.tok _).1 (.str x _))
theorem Ev.const_bool {b : Bool} {k : Nat} : Ev G cs d m H (.Constant (.bool b) k pos) (.bool b) H := fun env A ρ s Q E hE hA R k' =>
  fun _ _ _ => k' ρ _ _ (Stp.refl _ _ _) R (.bool b)
theorem Ev.const_none {k : Nat} : Ev G cs d m H (.Constant .none k pos) .none H := fun env A ρ s Q E hE hA R k' =>
  fun _ _ _ => k' ρ _ _ (Stp.refl _ _ _) R .none

/-- a name's place, its kind, its value -/
inductive At (v : PV) (x : Str) (k : NameKind) : List (Str × NameKind) → Mem → Prop
  | head {ns : List (Str × NameKind)} {m : Mem} : At v x k ((x, k) :: ns) (some v :: m)
  | tail {n : Str × NameKind} {ns : List (Str × NameKind)} {o : Option PV} {m : Mem} : At v x k ns m → At v x k (n :: ns) (o :: m)
theorem At.get {v : PV} {x : Str} {k : NameKind} {ns : List (Str × NameKind)} {m : Mem} (h : At v x k ns m) : ∃ i : Nat, ns[i]? = some (x, k) ∧ m[i]? = some (some v) := by
  induction h with
  | head => exact ⟨0, rfl, rfl⟩
  | tail _ ih => obtain ⟨i, a, b⟩ := ih; exact ⟨i + 1, by simpa using a, by simpa using b⟩
theorem lookup_of_mem {x : Str} {k : NameKind} : ∀ {ns : List (Str × NameKind)}, (ns.map (·.1)).Nodup → (x, k) ∈ ns → ns.lookup x = some k
  | (y, j) :: r, hn, h => by
    rw [List.map_cons, List.nodup_cons] at hn
    rcases List.mem_cons.mp h with e | h
    · cases e; simp
    · have hne : ¬ x = y := fun e => hn.1 (e ▸ List.mem_map.mpr ⟨(x, k), h, rfl⟩)
      rw [List.lookup_cons]
      have : (x == y) = false := by simpa using hne
      rw [this]
      exact lookup_of_mem hn.2 h

theorem EnvOK.kindOf {env : Env} {x : Str} {k : NameKind} (hE : EnvOK cs env) (h : (x, k) ∈ cs.names) : env.kindOf x = some k := by
  unfold Env.kindOf; rw [hE.scope]; exact lookup_of_mem hE.nd h

theorem Ev.local {x : Str} {v : PV} (h : At v x .local cs.names m) (hd : (x == ("__debug__" : Str)) = false := by decide) : Ev G cs d m H (.Name x pos) v H := fun env A ρ s Q E hE hA R k => by
  obtain ⟨mc, hn, hm⟩ := R.ns
  obtain ⟨i, h1, h2⟩ := h.get
  obtain ⟨cv, e, hc⟩ := hm i x v (by rw [hE.scope]; exact h1) h2
  exact wpAny_Name (wpAny_loadName_local (by rw [hE.scope]; exact hE.kind) (hE.kindOf (List.mem_of_getElem? h1)) hn e (k ρ s cv (Stp.refl _ _ _) R hc)) hd
theorem Ev.cell {x : Str} {v : PV} (h : At v x .cell cs.names m) (hd : (x == ("__debug__" : Str)) = false := by decide) : Ev G cs d m H (.Name x pos) v H := fun env A ρ s Q E hE hA R k => by
  obtain ⟨i, h1, h2⟩ := h.get
  obtain ⟨c, cv, hl, hi, hc⟩ := R.cel i x .cell v (by rw [hE.scope]; exact h1) (.inl rfl) h2
  exact wpAny_Name (wpAny_loadName_cell (by rw [hE.scope]; exact hE.kind) (hE.kindOf (List.mem_of_getElem? h1)) hl hi (k ρ s cv (Stp.refl _ _ _) R hc)) hd
theorem Ev.global {x : Str} {v : Value} (hv : G.mg x = some v) (hk : (x, NameKind.globalImplicit) ∈ cs.names) (hd : (x == ("__debug__" : Str)) = false := by decide) : Ev G cs d m H (.Name x pos) (.glob v) H := fun env A ρ s Q E hE hA R k => by
  have hk' : env.kindOf x = some .globalImplicit := hE.kindOf hk
  exact Calls.Name_function_global (by rw [hE.scope]; exact hE.kind) hk' (Calls.loadGlobal_global (by rw [hE.globals]; exact G.g.keeps R.keep) hv (k ρ s v (Stp.refl _ _ _) R (.glob v))) hd
theorem Ev.builtin {x : Str} {v : Value} (h0 : G.mg x = none) (hv : bootBuiltins x = some v) (hk : (x, NameKind.globalImplicit) ∈ cs.names) (hn : x ≠ "__name__" := by decide) (hd : (x == ("__debug__" : Str)) = false := by decide) : Ev G cs d m H (.Name x pos) (.glob v) H := fun env A ρ s Q E hE hA R k => by
  have hk' : env.kindOf x = some .globalImplicit := hE.kindOf hk
  exact Calls.Name_function_global (by rw [hE.scope]; exact hE.kind) hk' (Calls.loadGlobal_builtin (by rw [hE.globals]; exact G.g.keeps R.keep) h0 (by rw [hE.builtins]; exact G.b.keeps R.keep) ((G.bi x hn).trans hv) (k ρ s v (Stp.refl _ _ _) R (.glob v))) hd

/-- an operation on two values that makes at most a token -/
noncomputable def Op2 (G : Gd) (t : Value → Value → Sem Value) (a b v : PV) : Prop := ∀ (ρ : List Addr) (ca cb : Value) (A : Around) (s : Shared) (Q : Value → Shared → Prop) (E : Value → Shared → Prop), CV ρ a ca → CV ρ b cb →
  (∀ cv tk, CV ρ v cv → Q cv { s with toks := tk }) → wpAny G.M A (t ca cb) Q E s

theorem Ev.bin {l r : Expr} {op : Operator} {a b v : PV} (hl : Ev G cs d m H l a H₁) (hr : Ev G cs d m H₁ r b H₂) (ho : Op2 G (binaryOp op) a b v) : Ev G cs d m H (.BinOp l op r pos) v H₂ := fun env A ρ s Q E hE hA R k =>
  wpAny_BinOp (hl env A ρ s _ E hE hA R fun ρ₁ s₁ ca S₁ R₁ c₁ => hr env A ρ₁ s₁ _ E hE hA R₁ fun ρ₂ s₂ cb S₂ R₂ c₂ =>
    ho ρ₂ ca cb A s₂ Q E (c₁.mono S₂.pre) c₂ fun cv tk hc => k ρ₂ _ cv (Rel.trans (Rel.trans S₁ R₁ S₂) R₂ (R₂.tok tk).2) (R₂.tok tk).1 hc)

theorem op_add {a b : Int} : Op2 G (binaryOp .Add) (.int a) (.int b) (.int (a + b)) := fun ρ ca cb A s Q E h1 h2 k => by
  obtain ⟨t1, rfl⟩ := h1.intE; obtain ⟨t2, rfl⟩ := h2.intE; exact P.add_int (k _ _ (.int _ _))
theorem op_sub {a b : Int} : Op2 G (binaryOp .Sub) (.int a) (.int b) (.int (a - b)) := fun ρ ca cb A s Q E h1 h2 k => by
  obtain ⟨t1, rfl⟩ := h1.intE; obtain ⟨t2, rfl⟩ := h2.intE; exact P.sub_int (k _ _ (.int _ _))
theorem op_mul {a b : Int} (hb : IntMulOk a b) : Op2 G (binaryOp .Mult) (.int a) (.int b) (.int (a * b)) := fun ρ ca cb A s Q E h1 h2 k => by
  obtain ⟨t1, rfl⟩ := h1.intE; obtain ⟨t2, rfl⟩ := h2.intE; exact P.mul_int (k _ _ (.int _ _)) hb
theorem op_floordiv {a b : Int} (hb : b ≠ 0) (hs : b.natAbs < 1073741824) : Op2 G (binaryOp .FloorDiv) (.int a) (.int b) (.int (a.fdiv b)) := fun ρ ca cb A s Q E h1 h2 k => by
  obtain ⟨t1, rfl⟩ := h1.intE; obtain ⟨t2, rfl⟩ := h2.intE; exact floordiv_int hb (k _ _ (.int _ _)) (.inl (PyProof.noPylong_small hs))
theorem op_mod {a b : Int} (hb : b ≠ 0) : Op2 G (binaryOp .Mod) (.int a) (.int b) (.int (a.fmod b)) := fun ρ ca cb A s Q E h1 h2 k => by
  obtain ⟨t1, rfl⟩ := h1.intE; obtain ⟨t2, rfl⟩ := h2.intE; exact mod_int' hb (k _ _ (.int _ _))
theorem op_cat {x y : Str} (hz : x.length + y.length ≤ sizeLine) : Op2 G (binaryOp .Add) (.str x) (.str y) (.str (x ++ y)) := fun ρ ca cb A s Q E h1 h2 k => by
  obtain ⟨t1, rfl⟩ := h1.strE; obtain ⟨t2, rfl⟩ := h2.strE
  exact SB.add (fun t' tk => k _ _ (.str _ _)) hz
theorem op_rep {x : Str} {n : Int} (h : MulOk x n) : Op2 G (binaryOp .Mult) (.str x) (.int n) (.str (Txt.mul x n)) := fun ρ ca cb A s Q E h1 h2 k => by
  obtain ⟨t1, rfl⟩ := h1.strE; obtain ⟨t2, rfl⟩ := h2.intE
  exact SB.mul h fun t' tk => k _ _ (.str _ _)

theorem op_eq {a b : Int} : Op2 G (compareOp .Eq) (.int a) (.int b) (.bool (a == b)) := fun ρ ca cb A s Q E h1 h2 k => by
  obtain ⟨t1, rfl⟩ := h1.intE; obtain ⟨t2, rfl⟩ := h2.intE; exact P.eq_int (k _ s.toks (.bool _))
theorem op_lt {a b : Int} : Op2 G (compareOp .Lt) (.int a) (.int b) (.bool (decide (a < b))) := fun ρ ca cb A s Q E h1 h2 k => by
  obtain ⟨t1, rfl⟩ := h1.intE; obtain ⟨t2, rfl⟩ := h2.intE; exact P.lt_int (k _ s.toks (.bool _))
theorem op_gt {a b : Int} : Op2 G (compareOp .Gt) (.int a) (.int b) (.bool (decide (a > b))) := fun ρ ca cb A s Q E h1 h2 k => by
  obtain ⟨t1, rfl⟩ := h1.intE; obtain ⟨t2, rfl⟩ := h2.intE; exact P.gt_int (k _ s.toks (.bool _))
theorem op_ne {a b : Int} : Op2 G (compareOp .NotEq) (.int a) (.int b) (.bool (a != b)) := fun ρ ca cb A s Q E h1 h2 k => by
  obtain ⟨t1, rfl⟩ := h1.intE; obtain ⟨t2, rfl⟩ := h2.intE; exact P.ne_int (k _ s.toks (.bool _))
theorem op_eqs {a b : Str} : Op2 G (compareOp .Eq) (.str a) (.str b) (.bool (a.cps.toList == b.cps.toList)) := fun ρ ca cb A s Q E h1 h2 k => by
  obtain ⟨t1, rfl⟩ := h1.strE; obtain ⟨t2, rfl⟩ := h2.strE; exact P.eq_str (k _ s.toks (.bool _))
theorem op_nin {a b : Str} : Op2 G (compareOp .NotIn) (.str a) (.str b) (.bool (!Txt.contains b a)) := fun ρ ca cb A s Q E h1 h2 k => by
  obtain ⟨t1, rfl⟩ := h1.strE; obtain ⟨t2, rfl⟩ := h2.strE; exact SB.notContains (k _ s.toks (.bool _))

theorem op_is_none {v : PV} (h : v = .none ∨ (∃ i, v = .int i) ∨ (∃ n, v = .ref n) ∨ (∃ b, v = .bool b)) : Op2 G (compareOp .Is) v .none (.bool (match v with | .none => true | _ => false)) := fun ρ ca cb A s Q E h1 h2 k => by
  obtain rfl := h2.noneE
  rcases h with rfl | ⟨i, rfl⟩ | ⟨n, rfl⟩ | ⟨b, rfl⟩
  · obtain rfl := h1.noneE; exact is_none_none (k _ s.toks (.bool _))
  · obtain ⟨t, rfl⟩ := h1.intE; exact is_int_none (k _ s.toks (.bool _))
  · obtain ⟨a, rfl, _⟩ := h1.refE; exact is_ref_none (k _ s.toks (.bool _))
  · obtain rfl := h1.boolE; exact is_bool_none (k _ s.toks (.bool _))
theorem op_isnot_none {v : PV} (h : v = .none ∨ (∃ i, v = .int i) ∨ (∃ n, v = .ref n) ∨ (∃ b, v = .bool b)) : Op2 G (compareOp .IsNot) v .none (.bool (match v with | .none => false | _ => true)) := fun ρ ca cb A s Q E h1 h2 k => by
  obtain rfl := h2.noneE
  rcases h with rfl | ⟨i, rfl⟩ | ⟨n, rfl⟩ | ⟨b, rfl⟩
  · obtain rfl := h1.noneE; exact isnot_none_none (k _ s.toks (.bool _))
  · obtain ⟨t, rfl⟩ := h1.intE; exact isnot_int_none (k _ s.toks (.bool _))
  · obtain ⟨a, rfl, _⟩ := h1.refE; exact isnot_ref_none (k _ s.toks (.bool _))
  · obtain rfl := h1.boolE; exact isnot_bool_none (k _ s.toks (.bool _))
theorem op_is_bool {a b : Bool} : Op2 G (compareOp .Is) (.bool a) (.bool b) (.bool (a == b)) := fun ρ ca cb A s Q E h1 h2 k => by
  obtain rfl := h1.boolE; obtain rfl := h2.boolE; exact is_bool (k _ s.toks (.bool _))
theorem op_isnot_bool {a b : Bool} : Op2 G (compareOp .IsNot) (.bool a) (.bool b) (.bool (a != b)) := fun ρ ca cb A s Q E h1 h2 k => by
  obtain rfl := h1.boolE; obtain rfl := h2.boolE; exact isnot_bool (k _ s.toks (.bool _))

theorem Ev.cmp {l r : Expr} {op : CmpOp} {a b v : PV} (hl : Ev G cs d m H l a H₁) (hr : Ev G cs d m H₁ r b H₂) (ho : Op2 G (compareOp op) a b v) (hm : behindInMarks op r = false := by with_unfolding_all rfl) : Ev G cs d m H (.Compare l [op] [r] pos) v H₂ := fun env A ρ s Q E hE hA R k =>
  wpAny_Compare1 (hl env A ρ s _ E hE hA R fun ρ₁ s₁ ca S₁ R₁ c₁ => hr env A ρ₁ s₁ _ E hE hA R₁ fun ρ₂ s₂ cb S₂ R₂ c₂ =>
    ho ρ₂ ca cb A s₂ Q E (c₁.mono S₂.pre) c₂ fun cv tk hc => k ρ₂ _ cv (Rel.trans (Rel.trans S₁ R₁ S₂) R₂ (R₂.tok tk).2) (R₂.tok tk).1 hc) hm
theorem Tr.cmp {l r : Expr} {op : CmpOp} {a b : PV} {t : Bool} (hl : Ev G cs d m H l a H₁) (hr : Ev G cs d m H₁ r b H₂) (ho : Op2 G (compareOp op) a b (.bool t)) (hm : behindInMarks op r = false := by with_unfolding_all rfl) : Tr G cs d m H (.Compare l [op] [r] pos) t H₂ := fun env A ρ s Q E hE hA R k =>
  wpAny_isTrue_Compare1 (hl env A ρ s _ E hE hA R fun ρ₁ s₁ ca S₁ R₁ c₁ => hr env A ρ₁ s₁ _ E hE hA R₁ fun ρ₂ s₂ cb S₂ R₂ c₂ =>
    ho ρ₂ ca cb A s₂ _ E (c₁.mono S₂.pre) c₂ fun cv tk hc => by
      cases hc
      exact wpAny_truthy_bool (k ρ₂ _ t (Rel.trans (Rel.trans S₁ R₁ S₂) R₂ (R₂.tok tk).2) (R₂.tok tk).1 rfl)) hm

theorem Tr.name {x : Str} {b : Bool} (h : Ev G cs d m H (.Name x pos) (.bool b) H₁) : Tr G cs d m H (.Name x pos) b H₁ := fun env A ρ s Q E hE hA R k =>
  isTrue_plain (h env A ρ s _ E hE hA R fun ρ₁ s₁ ca S₁ R₁ c₁ => by
    cases c₁
    exact wpAny_truthy_bool (k ρ₁ s₁ b S₁ R₁ rfl))
theorem Tr.not {e : Expr} {b : Bool} (h : Tr G cs d m H e b H₁) : Tr G cs d m H (.UnaryOp .Not e pos) (!b) H₁ := fun env A ρ s Q E hE hA R k =>
  isTrue_not (h env A ρ s _ E hE hA R fun ρ₁ s₁ c S₁ R₁ hc => k ρ₁ s₁ _ S₁ R₁ (by rw [hc]))
theorem Tr.or_nil : Tr G cs d m H (.BoolOp .Or [] pos) false H := fun env A ρ s Q E hE hA R k => isTrue_or_nil (k ρ s _ (Stp.refl _ _ _) R rfl)
theorem Tr.and_nil : Tr G cs d m H (.BoolOp .And [] pos) true H := fun env A ρ s Q E hE hA R k => isTrue_and_nil (k ρ s _ (Stp.refl _ _ _) R rfl)
theorem Tr.or_false {e : Expr} {es : List Expr} {b : Bool} (h : Tr G cs d m H e false H₁) (h' : Tr G cs d m H₁ (.BoolOp .Or es pos) b H₂) : Tr G cs d m H (.BoolOp .Or (e :: es) pos) b H₂ := fun env A ρ s Q E hE hA R k =>
  isTrue_or (h env A ρ s _ E hE hA R fun ρ₁ s₁ c S₁ R₁ hc => by
    subst hc
    exact h' env A ρ₁ s₁ Q E hE hA R₁ fun ρ₂ s₂ c S₂ R₂ hc => k ρ₂ s₂ c (Rel.trans S₁ R₁ S₂) R₂ hc)
theorem Tr.and_false {e : Expr} {es : List Expr} (h : Tr G cs d m H e false H₁) : Tr G cs d m H (.BoolOp .And (e :: es) pos) false H₁ := fun env A ρ s Q E hE hA R k =>
  isTrue_and (h env A ρ s _ E hE hA R fun ρ₁ s₁ c S₁ R₁ hc => by subst hc; exact k ρ₁ s₁ _ S₁ R₁ rfl)
theorem Tr.and_true {e : Expr} {es : List Expr} {b : Bool} (h : Tr G cs d m H e true H₁) (h' : Tr G cs d m H₁ (.BoolOp .And es pos) b H₂) : Tr G cs d m H (.BoolOp .And (e :: es) pos) b H₂ := fun env A ρ s Q E hE hA R k =>
  isTrue_and (h env A ρ s _ E hE hA R fun ρ₁ s₁ c S₁ R₁ hc => by
    subst hc
    exact h' env A ρ₁ s₁ Q E hE hA R₁ fun ρ₂ s₂ c S₂ R₂ hc => k ρ₂ s₂ c (Rel.trans S₁ R₁ S₂) R₂ hc)

theorem Ev.ifexp {t e₁ e₂ : Expr} {b : Bool} {v : PV} (h : Tr G cs d m H t b H₁) (h' : Ev G cs d m H₁ (if b then e₁ else e₂) v H₂) : Ev G cs d m H (.IfExp t e₁ e₂ pos) v H₂ := fun env A ρ s Q E hE hA R k =>
  IfExp_ (h env A ρ s _ E hE hA R fun ρ₁ s₁ c S₁ R₁ hc => by
    subst hc
    have := h' env A ρ₁ s₁ Q E hE hA R₁ fun ρ₂ s₂ c S₂ R₂ hc => k ρ₂ s₂ c (Rel.trans S₁ R₁ S₂) R₂ hc
    cases c <;> exact this)

theorem Ev.neg {e : Expr} {i : Int} (h : Ev G cs d m H e (.int i) H₁) : Ev G cs d m H (.UnaryOp .USub e pos) (.int (-i)) H₁ := fun env A ρ s Q E hE hA R k =>
  UnaryOp_ (h env A ρ s _ E hE hA R fun ρ₁ s₁ c S₁ R₁ hc => by
    cases hc
    exact P.neg_int (k ρ₁ _ _ (Rel.trans S₁ R₁ (R₁.tok _).2) (R₁.tok _).1 (.int _ _)))

noncomputable def plainE : Expr → Bool
  | .Starred .. => false
  | _ => true
theorem starEach_plain {e : Expr} {rest : List Expr} {env : Env} (h : plainE e = true) : starEach (e :: rest) env = (false, eval e env) :: starEach rest env := by
  cases e <;> first | rfl | cases h

noncomputable def Evs (G : Gd) (cs : Scope) (d : Nat) (m : Mem) (H : Hp) (es : List Expr) (vs : List PV) (H' : Hp) : Prop := ∀ pos, Rn G cs d m H (fun env => spliced (backTo pos (starEach es env))) m H' fun ρ cvs => CVs ρ vs cvs
theorem Evs.nil : Evs G cs d m H [] [] H := fun pos env A ρ s Q E hE hA R k => Calls.spliced_nil (k ρ s [] (Stp.refl _ _ _) R .nil)
theorem Evs.cons {e : Expr} {es : List Expr} {v : PV} {vs : List PV} (h : Ev G cs d m H e v H₁) (h' : Evs G cs d m H₁ es vs H₂) (hp : plainE e = true := by rfl) : Evs G cs d m H (e :: es) (v :: vs) H₂ := fun pos env A ρ s Q E hE hA R k => by
  show wpAny _ _ (spliced (backTo pos (starEach (e :: es) env))) _ _ _
  refine spliced_more (h env A ρ s _ E hE hA R fun ρ₁ s₁ c S₁ R₁ hc => ?_) (starEach_plain hp)
  exact h' pos env A ρ₁ s₁ _ E hE hA R₁ fun ρ₂ s₂ cs S₂ R₂ hcs => k ρ₂ s₂ _ (Rel.trans S₁ R₁ S₂) R₂ (.cons (hc.mono S₂.pre) hcs)

theorem noStar {pos : Pos} {env : Env} : ∀ {es : List Expr}, es.all plainE = true → (backTo pos (starEach es env)).any (·.1) = false
  | [], _ => rfl
  | e :: r, h => by
    rw [List.all_cons, Bool.and_eq_true] at h
    rw [starEach_plain h.1]
    show (false || (backTo pos (starEach r env)).any (·.1)) = false
    rw [noStar h.2]; rfl

/-- the way from a call's name to its value -/
theorem Ev.callF {fe : Expr} {f : Addr} {o : Obj} {fd : FuncData} {e : Expr} {args : List Expr} {vs : List PV} {v : PV} (hf : Ev G cs d m H fe (.glob (.ref f)) H₁) (ho : G.h₀.get? f = some o) (hd : o.data = .func fd)
    (ha : Evs G cs d m H₁ (e :: args) vs H₂) (hc : Cl G d (.ref f) vs H₂ v H₃) (hp : plainE e = true := by rfl)
    (he : ∀ env, eval (.Call fe (e :: args) [] pos) env = (do callWith pos (← eval fe env) [] (backTo pos (starEach (e :: args) env)) (backToKw pos (keywordEach [] env))) := by intro env; rfl) : Ev G cs d m H (.Call fe (e :: args) [] pos) v H₃ := fun env A ρ s Q E hE hA R k => by
  refine Call_ (hf env A ρ s _ E hE hA R fun ρ₁ s₁ cf S₁ R₁ hcf => ?_) (he env)
  cases hcf
  have ha' := ha pos env A ρ₁ s₁
  dsimp only at ha'
  rw [starEach_plain hp] at ha' ⊢
  refine Calls.callWith_function (o := o) (fd := fd) (Calls.evalArgs_plain (ha' _ E hE hA R₁ fun ρ₂ s₂ cvs S₂ R₂ hcs => ?_))
  refine ⟨⟨R₂.keep _ _ ho, hd⟩, ?_⟩
  exact hc A ρ₂ s₂ cvs Q E hA R₂.toRel0 hcs fun ρ₃ s₃ cv S₃ R₃ hcv => k ρ₃ s₃ cv (Rel.trans (Rel.trans S₁ R₁ S₂) R₂ S₃.widen) { toRel0 := R₃, toFra := R₂.toFra.of_stp S₃ } hcv

/-- a built-in's call -/
noncomputable def Bi (G : Gd) (d : Nat) (f : Value) (args : List PV) (H : Hp) (v : PV) (H' : Hp) : Prop := Cl G d f args H v H'
theorem Ev.callB {fe : Expr} {id : String} {e : Expr} {args : List Expr} {vs : List PV} {v : PV} (hf : Ev G cs d m H fe (.glob (.builtin id)) H₁)
    (ha : Evs G cs d m H₁ (e :: args) vs H₂) (hc : Cl G d (.builtin id) vs H₂ v H₃) (hp : (e :: args).all plainE = true := by rfl)
    (he : ∀ env, eval (.Call fe (e :: args) [] pos) env = (do callWith pos (← eval fe env) [] (backTo pos (starEach (e :: args) env)) (backToKw pos (keywordEach [] env))) := by intro env; rfl) : Ev G cs d m H (.Call fe (e :: args) [] pos) v H₃ := fun env A ρ s Q E hE hA R k => by
  refine Call_ (hf env A ρ s _ E hE hA R fun ρ₁ s₁ cf S₁ R₁ hcf => ?_) (he env)
  cases hcf
  have ha' := ha pos env A ρ₁ s₁
  dsimp only at ha'
  have hn := noStar (pos := pos) (env := env) hp
  rw [List.all_cons, Bool.and_eq_true] at hp
  rw [starEach_plain hp.1] at ha' hn ⊢
  refine Calls.callWith_builtin hn (Calls.evalArgs_plain (ha' _ E hE hA R₁ fun ρ₂ s₂ cvs S₂ R₂ hcs => ?_))
  exact hc A ρ₂ s₂ cvs Q E hA R₂.toRel0 hcs fun ρ₃ s₃ cv S₃ R₃ hcv => k ρ₃ s₃ cv (Rel.trans (Rel.trans S₁ R₁ S₂) R₂ S₃.widen) { toRel0 := R₃, toFra := R₂.toFra.of_stp S₃ } hcv

end

section
variable {G : Gd} {cs : Scope} {d : Nat} {m : Mem} {H H₁ H₂ H₃ : Hp} {pos : Pos}

/-- an operation on two values that may read or make tracked lists -/
noncomputable def OpR (G : Gd) (d : Nat) (t : Value → Value → Sem Value) (a b : PV) (H : Hp) (v : PV) (H' : Hp) : Prop :=
  ∀ (A : Around) (ρ : List Addr) (s : Shared) (ca cb : Value) (Q : Value → Shared → Prop) (E : Value → Shared → Prop), AOk d A → Rel0 G ρ H s → CV ρ a ca → CV ρ b cb →
    (∀ ρ' s' cv, Stp (fun _ => False) ρ s ρ' s' → Rel0 G ρ' H' s' → CV ρ' v cv → Q cv s') → wpAny G.M A (t ca cb) Q E s
theorem Op2.toR {t : Value → Value → Sem Value} {a b v : PV} (h : Op2 G t a b v) : OpR G d t a b H v H := fun A ρ s ca cb Q E hA R h1 h2 k =>
  h ρ ca cb A s Q E h1 h2 fun cv tk hc => k ρ _ cv (R.grow (h' := s.heap) (tk := tk) fun _ _ e => e).2 (R.grow (h' := s.heap) (tk := tk) fun _ _ e => e).1 hc

theorem Ev.binR {l r : Expr} {op : Operator} {a b v : PV} (hl : Ev G cs d m H l a H₁) (hr : Ev G cs d m H₁ r b H₂) (ho : OpR G d (binaryOp op) a b H₂ v H₃) : Ev G cs d m H (.BinOp l op r pos) v H₃ := fun env A ρ s Q E hE hA R k =>
  wpAny_BinOp (hl env A ρ s _ E hE hA R fun ρ₁ s₁ ca S₁ R₁ c₁ => hr env A ρ₁ s₁ _ E hE hA R₁ fun ρ₂ s₂ cb S₂ R₂ c₂ =>
    ho A ρ₂ s₂ ca cb Q E hA R₂.toRel0 (c₁.mono S₂.pre) c₂ fun ρ₃ s₃ cv S₃ R₃ hc => k ρ₃ s₃ cv (Rel.trans (Rel.trans S₁ R₁ S₂) R₂ S₃.widen) { toRel0 := R₃, toFra := R₂.toFra.of_stp S₃ } hc)
theorem Ev.cmpR {l r : Expr} {op : CmpOp} {a b v : PV} (hl : Ev G cs d m H l a H₁) (hr : Ev G cs d m H₁ r b H₂) (ho : OpR G d (compareOp op) a b H₂ v H₃) (hm : behindInMarks op r = false := by with_unfolding_all rfl) : Ev G cs d m H (.Compare l [op] [r] pos) v H₃ := fun env A ρ s Q E hE hA R k =>
  wpAny_Compare1 (hl env A ρ s _ E hE hA R fun ρ₁ s₁ ca S₁ R₁ c₁ => hr env A ρ₁ s₁ _ E hE hA R₁ fun ρ₂ s₂ cb S₂ R₂ c₂ =>
    ho A ρ₂ s₂ ca cb Q E hA R₂.toRel0 (c₁.mono S₂.pre) c₂ fun ρ₃ s₃ cv S₃ R₃ hc => k ρ₃ s₃ cv (Rel.trans (Rel.trans S₁ R₁ S₂) R₂ S₃.widen) { toRel0 := R₃, toFra := R₂.toFra.of_stp S₃ } hc) hm
theorem Tr.cmpR {l r : Expr} {op : CmpOp} {a b : PV} {t : Bool} (hl : Ev G cs d m H l a H₁) (hr : Ev G cs d m H₁ r b H₂) (ho : OpR G d (compareOp op) a b H₂ (.bool t) H₃) (hm : behindInMarks op r = false := by with_unfolding_all rfl) : Tr G cs d m H (.Compare l [op] [r] pos) t H₃ := fun env A ρ s Q E hE hA R k =>
  wpAny_isTrue_Compare1 (hl env A ρ s _ E hE hA R fun ρ₁ s₁ ca S₁ R₁ c₁ => hr env A ρ₁ s₁ _ E hE hA R₁ fun ρ₂ s₂ cb S₂ R₂ c₂ =>
    ho A ρ₂ s₂ ca cb _ E hA R₂.toRel0 (c₁.mono S₂.pre) c₂ fun ρ₃ s₃ cv S₃ R₃ hc => by
      cases hc
      exact wpAny_truthy_bool (k ρ₃ s₃ t (Rel.trans (Rel.trans S₁ R₁ S₂) R₂ S₃.widen) { toRel0 := R₃, toFra := R₂.toFra.of_stp S₃ } rfl)) hm

theorem LAt.isList {ρ : List Addr} {h : Heap} {a : Addr} {xs : List PV} (x : LAt ρ h a xs) : ∃ vs, h.IsList a (List.toArray vs) ∧ CVs ρ xs vs := by
  obtain ⟨vs, n, e, hc⟩ := x
  exact ⟨vs, ⟨_, e, rfl, n, rfl⟩, hc⟩
theorem CVs.ints {ρ : List Addr} : ∀ {ns : List Int} {vs : List Value}, CVs ρ (ns.map PV.int) vs → IntsAre vs ns
  | [], _, h => by cases h; exact .nil
  | n :: r, _, h => by
    obtain ⟨_, _, rfl, a, b⟩ := h.consE
    cases a with
    | int _ t => exact .cons n t b.ints
theorem Rel0.at {ρ : List Addr} {s : Shared} (R : Rel0 G ρ H s) {i : Nat} {xs : List PV} {a : Addr} (e : H[i]? = some xs) (h : ρ[i]? = some a) : LAt ρ s.heap a xs := by
  obtain ⟨b, hb, x⟩ := R.objs i xs e
  rw [h] at hb; cases hb; exact x

/-- two lists of ints compared -/
theorem op_eq_ints {i j : Nat} {ns ms : List Int} (hi : H[i]? = some (ns.map PV.int)) (hj : H[j]? = some (ms.map PV.int)) : OpR G d (compareOp .Eq) (.ref i) (.ref j) H (.bool (decide (ns = ms))) H := fun A ρ s ca cb Q E hA R h1 h2 k => by
  cases h1 with
  | ref e1 =>
  obtain ⟨_, rfl, e2⟩ := h2.refE
  obtain ⟨vs, l1, c1⟩ := (R.at hi e1).isList
  obtain ⟨us, l2, c2⟩ := (R.at hj e2).isList
  exact eq_intsK l1 c1.ints l2 c2.ints (by have := hA.2.2; (first | lia | omega)) (k ρ s _ (Stp.refl _ _ _) R (.bool _))
theorem op_ne_ints {i j : Nat} {ns ms : List Int} (hi : H[i]? = some (ns.map PV.int)) (hj : H[j]? = some (ms.map PV.int)) : OpR G d (compareOp .NotEq) (.ref i) (.ref j) H (.bool (!decide (ns = ms))) H := fun A ρ s ca cb Q E hA R h1 h2 k => by
  cases h1 with
  | ref e1 =>
  obtain ⟨_, rfl, e2⟩ := h2.refE
  obtain ⟨vs, l1, c1⟩ := (R.at hi e1).isList
  obtain ⟨us, l2, c2⟩ := (R.at hj e2).isList
  exact ne_intsK l1 c1.ints l2 c2.ints (by have := hA.2.2; (first | lia | omega)) (k ρ s _ (Stp.refl _ _ _) R (.bool _))

/-- lists of lists of ints -/
noncomputable def LLs (H : Hp) : List PV → List (List Int) → Prop
  | [], [] => True
  | p :: ps, ns :: r => (∃ i, p = .ref i ∧ H[i]? = some (ns.map PV.int)) ∧ LLs H ps r
  | _, _ => False
theorem LLs.reads {ρ : List Addr} {s : Shared} (R : Rel0 G ρ H s) : ∀ {ps : List PV} {nss : List (List Int)} {vs : List Value}, LLs H ps nss → CVs ρ ps vs → ∃ as, ReadsAll s.heap vs (nss.map fun ns => PyData.list (ns.map PyData.int)) as
  | [], [], _, _, h => by cases h; exact ⟨_, .nil⟩
  | p :: ps, ns :: r, _, ⟨⟨i, ep, e⟩, hr⟩, h => by
    subst ep
    obtain ⟨_, _, rfl, a, b⟩ := h.consE
    obtain ⟨_, rfl, e1⟩ := a.refE
    obtain ⟨as, ha⟩ := LLs.reads R hr b
    obtain ⟨us, l1, c1⟩ := (R.at e e1).isList
    exact ⟨_, .cons (reads_of_ints l1 c1.ints) ha⟩
  | [], _ :: _, _, h, _ => h.elim
  | _ :: _, [], _, h, _ => h.elim
theorem pick_map {α β : Type} (f : α → β) (xs : List α) (is : List Nat) : is.filterMap ((xs.map f)[·]?) = (is.filterMap (xs[·]?)).map f := by
  induction is with
  | nil => rfl
  | cons i r ih =>
    rw [List.filterMap_cons, List.filterMap_cons, ih, List.getElem?_map]
    cases xs[i]? <;> rfl
noncomputable def pickL {α : Type} (xs : List α) (lo hi st : Option Int) : List α := (sliceRange (sliceBounds lo hi st xs.length).1 (sliceBounds lo hi st xs.length).2.1 (sliceBounds lo hi st xs.length).2.2).filterMap (xs[·]?)
theorem pickL_map {α β : Type} (f : α → β) (xs : List α) (lo hi st : Option Int) : pickL (xs.map f) lo hi st = (pickL xs lo hi st).map f := by
  unfold pickL
  rw [List.length_map, pick_map]
theorem CVs.pick {ρ : List Addr} {ps : List PV} {vs : List Value} (h : CVs ρ ps vs) : ∀ is : List Nat, CVs ρ (is.filterMap (ps[·]?)) (is.filterMap (vs[·]?))
  | [] => .nil
  | i :: r => by
    simp only [List.filterMap_cons]
    cases e : ps[i]? with
    | none =>
      have : vs[i]? = none := by
        rw [List.getElem?_eq_none_iff] at e ⊢
        rw [h.length]; exact e
      rw [this]; exact h.pick r
    | some p =>
      obtain ⟨v, e', hv⟩ := h.get e
      rw [e']; exact .cons hv (h.pick r)
theorem CVs.pickL {ρ : List Addr} {ps : List PV} {vs : List Value} (h : CVs ρ ps vs) (lo hi st : Option Int) : CVs ρ (pickL ps lo hi st) (slicePick vs.toArray lo hi st).toList := by
  have := h.pick (sliceRange (sliceBounds lo hi st ps.length).1 (sliceBounds lo hi st ps.length).2.1 (sliceBounds lo hi st ps.length).2.2)
  unfold Mine.pickL slicePick
  rw [List.size_toArray, h.length]
  simpa using this

/-- a slice's part -/
noncomputable def EvP (G : Gd) (cs : Scope) (d : Nat) (m : Mem) (H : Hp) (oe : Option Expr) (p : Option Int) : Prop := Rn G cs d m H (fun env => evalPart oe env) m H fun _ cv => IsPart cv p
theorem EvP.none : EvP G cs d m H none none := fun env A ρ s Q E hE hA R k => wpAny_pure (k ρ s _ (Stp.refl _ _ _) R .none)
theorem EvP.some {e : Expr} {i : Int} (h : Ev G cs d m H e (.int i) H) : EvP G cs d m H (some e) (some i) := fun env A ρ s Q E hE hA R k =>
  h env A ρ s Q E hE hA R fun ρ₁ s₁ cv S₁ R₁ hc => by cases hc; exact k ρ₁ s₁ _ S₁ R₁ (.int _ _)

theorem Rel.new {env : Env} {ρ : List Addr} {s : Shared} (R : Rel G env ρ m H s) (o : Obj) (tk : Nat) : Rel G env ρ m H { s with heap := s.heap.push o, toks := tk } ∧ Stp (Own env) ρ s ρ { s with heap := s.heap.push o, toks := tk } :=
  R.of0 (R.toRel0.grow fun _ _ e => Heap.get?_push_of_some _ e)
theorem get?_size_none (h : Heap) : h.get? h.objs.size = none := by
  cases e : h.get? h.objs.size with
  | none => rfl
  | some o => exact absurd (Heap.lt_size e) (Nat.lt_irrefl _)

theorem get?_size1_none (h : Heap) : h.get? (h.objs.size + 1) = none := by
  cases e : h.get? (h.objs.size + 1) with
  | none => rfl
  | some o => exact absurd (Heap.lt_size e) (Nat.not_lt.mpr (Nat.le_succ _))
theorem pushed2 (h : Heap) (o : Obj) (its : Array Value) : ((h.push o).push { cls := .type "list", data := .seq its }).get? (h.objs.size + 1) = some (listOf (List.toArray its.toList) 0) := by
  have q : ((h.push o).push { cls := .type "list", data := .seq its }).get? (h.push o).objs.size = some { cls := .type "list", data := .seq its } := Heap.get?_push_size _ rfl
  rw [Heap.size_push] at q
  rw [q]

theorem Ev.slice {value : Expr} {lo hi : Option Expr} {p : Pos} {n : Nat} {xs : List PV} {a b : Option Int} (hv : Ev G cs d m H value (.ref n) H₁) (hx : H₁[n]? = some xs) (ha : EvP G cs d m H₁ lo a) (hb : EvP G cs d m H₁ hi b) (hz : xs.length ≤ sizeLine)
    (ht : ∀ o r, letTemporaryGo value o r = pure () := by intro _ _; rfl) : Ev G cs d m H (.Subscript value (.Slice lo hi none p) pos) (.ref H₁.length) (H₁ ++ [pickL xs a b none]) := fun env A ρ s Q E hE hA R k =>
  wpAny_Subscript_list_slice (hv env A ρ s _ E hE hA R fun ρ₁ s₁ ca S₁ R₁ c₁ => ha env A ρ₁ s₁ _ E hE hA R₁ fun ρ₂ s₂ vl S₂ R₂ pl => hb env A ρ₂ s₂ _ E hE hA R₂ fun ρ₃ s₃ vu S₃ R₃ pu => by
    obtain ⟨_, rfl, e⟩ := c₁.refE
    have e3 := prefix_get (S₂.pre.trans S₃.pre) e
    obtain ⟨vs, hl, hc⟩ := (R₃.toRel0.at hx e3).isList
    refine ⟨_, _, _, _, rfl, hl, by rw [List.size_toArray, hc.length]; exact hz, pl, pu, ?_⟩
    have hn : s₃.heap.get? (s₃.heap.objs.size + 1) = none := get?_size1_none _
    have hp := pushed2 s₃.heap { cls := .type "slice", data := .fields #[vl, vu, .none] } (slicePick (List.toArray vs) a b none)
    obtain ⟨R4, S4, c4⟩ := R₃.toRel0.alloc (tk := s₃.toks) (fun b o e => Heap.get?_push_of_some _ (Heap.get?_push_of_some _ e)) hn hp (hc.pickL a b none)
    exact k _ _ _ (Rel.trans (Rel.trans (Rel.trans S₁ R₁ S₂) R₂ S₃) R₃ S4.widen) { toRel0 := R4, toFra := R₃.toFra.of_stp S4 } c4) ht

theorem Ev.sliceK {value st : Expr} {lo hi : Option Expr} {p : Pos} {n : Nat} {xs : List PV} {a b : Option Int} {c : Int} (hv : Ev G cs d m H value (.ref n) H₁) (hx : H₁[n]? = some xs) (ha : EvP G cs d m H₁ lo a) (hb : EvP G cs d m H₁ hi b) (hc : Ev G cs d m H₁ st (.int c) H₁) (hc0 : c ≠ 0) (hz : xs.length ≤ sizeLine)
    (ht : ∀ o r, letTemporaryGo value o r = pure () := by intro _ _; rfl) : Ev G cs d m H (.Subscript value (.Slice lo hi (some st) p) pos) (.ref H₁.length) (H₁ ++ [pickL xs a b (some c)]) := fun env A ρ s Q E hE hA R k =>
  wpAny_Subscript_Slice_step (T := "list") list_getitem_lookup (hv env A ρ s _ E hE hA R fun ρ₁ s₁ ca S₁ R₁ c₁ => wpAny_Slice (ha env A ρ₁ s₁ _ E hE hA R₁ fun ρ₂ s₂ vl S₂ R₂ pl => hb env A ρ₂ s₂ _ E hE hA R₂ fun ρ₃ s₃ vu S₃ R₃ pu => by
    rw [evalPart_some]
    refine hc env A ρ₃ s₃ _ E hE hA R₃ fun ρ₄ s₄ vc S₄ R₄ pc => ?_
    cases pc with
    | int _ tc =>
    obtain ⟨_, rfl, e⟩ := c₁.refE
    have e4 := prefix_get ((S₂.pre.trans S₃.pre).trans S₄.pre) e
    obtain ⟨vs, hl, hcv⟩ := (R₄.toRel0.at hx e4).isList
    refine ⟨(hl.push _).typeIs, wpAny_getItem_list_slice (hl.push _) (Heap.IsSliceOf.new ..) pl pu (.int c tc) (by simpa using hc0) ?_ (by rw [List.size_toArray, hcv.length]; exact hz)⟩
    have hn : s₄.heap.get? (s₄.heap.objs.size + 1) = none := get?_size1_none _
    have hp := pushed2 s₄.heap { cls := .type "slice", data := .fields #[vl, vu, .int c tc] } (slicePick (List.toArray vs) a b (some c))
    obtain ⟨R5, S5, c5⟩ := R₄.toRel0.alloc (tk := s₄.toks) (fun b o e => Heap.get?_push_of_some _ (Heap.get?_push_of_some _ e)) hn hp (hcv.pickL a b (some c))
    rw [Heap.size_push]
    exact k _ _ _ (Rel.trans (Rel.trans (Rel.trans (Rel.trans S₁ R₁ S₂) R₂ S₃) R₃ S₄) R₄ S5.widen) { toRel0 := R5, toFra := R₄.toFra.of_stp S5 } c5)) ht

theorem Ev.item {value idx : Expr} {n : Nat} {i : Int} {xs : List PV} {v : PV} (hv : Ev G cs d m H value (.ref n) H₁) (hi : Ev G cs d m H₁ idx (.int i) H₂) (hx : H₂[n]? = some xs) (h0 : 0 ≤ i) (hf : i < 2 ^ 63) (hg : xs[i.toNat]? = some v)
    (hs : ∀ l k u, subscripted idx false (.ref l) (.int k u) = operate [.ref l, .int k u] (getItem (.ref l) (.int k u)) := by intro _ _ _; with_unfolding_all rfl) (ht : ∀ l r, letTemporaryGo value (.ref l) r = pure () := by intro _ _; with_unfolding_all rfl) :
    Ev G cs d m H (.Subscript value idx pos) v H₂ := fun env A ρ s Q E hE hA R k =>
  Subscript_ (hv env A ρ s _ E hE hA R fun ρ₁ s₁ ca S₁ R₁ c₁ => hi env A ρ₁ s₁ _ E hE hA R₁ fun ρ₂ s₂ ci S₂ R₂ c₂ => by
    cases c₁ with
    | ref e =>
    obtain ⟨ti, rfl⟩ := c₂.intE
    obtain ⟨vs, hl, hc⟩ := (R₂.toRel0.at hx (prefix_get S₂.pre e)).isList
    obtain ⟨cv, e', hcv⟩ := hc.get hg
    exact item_list hl h0 hf (by simpa using e') (k ρ₂ s₂ cv (Rel.trans S₁ R₁ S₂) R₂ hcv) (hs _ _ _) (ht _))

theorem Ev.list {es : List Expr} {vs : List PV} (h : Evs G cs d m H es vs H₁) (hz : vs.length ≤ sizeLine) : Ev G cs d m H (.List es pos) (.ref H₁.length) (H₁ ++ [vs]) := fun env A ρ s Q E hE hA R k =>
  List_ (h pos env A ρ s _ E hE hA R fun ρ₁ s₁ cvs S₁ R₁ c₁ => by
    obtain ⟨R2, S2, c2⟩ := R₁.toRel0.alloc (h' := s₁.heap.push { cls := .type "list", data := .seq (List.toArray cvs) }) (tk := s₁.toks) (a := s₁.heap.objs.size) (vs := cvs) (n := 0) (fun b o e => Heap.get?_push_of_some _ e) (get?_size_none _) (Heap.get?_push_size _ rfl) c₁
    exact wpAny_newObj_type (k _ _ _ (Rel.trans S₁ R₁ S2.widen) { toRel0 := R2, toFra := R₁.toFra.of_stp S2 } c2) (by show cvs.toArray.size ≤ sizeLine; rw [List.size_toArray, c₁.length]; exact hz))

/-- a method's call on a tracked list: the value before it stays -/
theorem list_method {A : Around} {E : Value → Shared → Prop} {s : Shared} {a : Addr} {its : Array Value} {n : Nat} {name : Str} {id : String} {pl : Sem Bool} {Q : Value × List Value → Shared → Prop} (ho : s.heap.get? a = some (listOf its n)) (slot : Slot "list" name id) (ty : typeOf (.builtin id) = pure (.type "method_descriptor"))
    (h : Q (.builtin id, [.ref a]) s) : wpAny G.M A (getMethod (.ref a) name pl) Q E s :=
  getMethod_builtin ⟨_, ho, rfl⟩ PySem.F.plainAttrs_list slot ty (fun b e => by cases e; exact ⟨_, ho, rfl⟩) h

theorem Ev.meth {o : Expr} {name : Str} {apos : Pos} {id : String} {e : Expr} {args : List Expr} {n : Nat} {xs : List PV} {vs : List PV} {v : PV} (ho : Ev G cs d m H o (.ref n) H₁) (hx : H₁[n]? = some xs) (slot : Slot "list" name id) (ty : typeOf (.builtin id) = pure (.type "method_descriptor"))
    (ha : Evs G cs d m H₁ (e :: args) vs H₂) (hc : Cl G d (.builtin id) (.ref n :: vs) H₂ v H₃) (hp : (e :: args).all plainE = true := by rfl) (pl : Env → Sem Bool)
    (he : ∀ env, eval (.Call (.Attribute o name apos) (e :: args) [] pos) env = (do
      let ov ← eval o env
      standAt apos.atName
      let (f, first) ← holding [ov] (getMethod ov name (pl env))
      callWith pos f first (backTo pos (starEach (e :: args) env)) [])) :
    Ev G cs d m H (.Call (.Attribute o name apos) (e :: args) [] pos) v H₃ := fun env A ρ s Q E hE hA R k => by
  refine MethodCall_ (pl := pl env) (ho env A ρ s _ E hE hA R fun ρ₁ s₁ ca S₁ R₁ c₁ => ?_) (he env)
  obtain ⟨_, rfl, e1⟩ := c₁.refE
  obtain ⟨us, n', hg, hcv⟩ := R₁.toRel0.at hx e1
  refine list_method hg slot ty ?_
  have ha' := ha pos env A ρ₁ s₁
  dsimp only at ha'
  have hn := noStar (pos := pos) (env := env) hp
  rw [List.all_cons, Bool.and_eq_true] at hp
  rw [starEach_plain hp.1] at ha' hn ⊢
  refine Calls.callWith_builtin hn (Calls.evalArgs_plain (ha' _ E hE hA R₁ fun ρ₂ s₂ cvs S₂ R₂ hcs => ?_))
  exact hc A ρ₂ s₂ _ Q E hA R₂.toRel0 (.cons (.ref (prefix_get S₂.pre e1)) hcs) fun ρ₃ s₃ cv S₃ R₃ hcv => k ρ₃ s₃ cv (Rel.trans (Rel.trans S₁ R₁ S₂) R₂ S₃.widen) { toRel0 := R₃, toFra := R₂.toFra.of_stp S₃ } hcv

theorem cl_append {n : Nat} {xs : List PV} {v : PV} (hx : H[n]? = some xs) (hz : xs.length ≤ sizeLine) : Cl G d (.builtin "list.append") [.ref n, v] H .none (H.set n (xs ++ [v])) := fun A ρ s cas Q E hA R hc k => by
  cases hc with
  | cons c1 h =>
  cases h with
  | cons c2 h =>
  cases h
  obtain ⟨_, rfl, e⟩ := c1.refE
  obtain ⟨vs, n', hg, hcv⟩ := R.at hx e
  refine append_at (hsz := by rw [List.size_toArray, hcv.length]; exact hz) hg fun h' hs hD => ?_
  obtain ⟨R2, S2⟩ := R.upd (h' := h') (tk := s.toks) (vs := vs ++ [_]) (n := n' + 1) (fun b o hb e => hs.extBut b o hb e) e (by rw [hD]; simp) (hcv.append (.cons c2 .nil))
  exact k ρ _ _ S2 R2 .none

end

section
variable {G : Gd} {cs : Scope} {d : Nat} {m m₁ m₂ m' : Mem} {H H₁ H₂ H₃ H' : Hp} {pos : Pos}

/-- a name's place filled anew -/
inductive Put (v : PV) (x : Str) (k : NameKind) : List (Str × NameKind) → Mem → Mem → Prop
  | head {ns : List (Str × NameKind)} {o : Option PV} {m : Mem} : Put v x k ((x, k) :: ns) (o :: m) (some v :: m)
  | tail {n : Str × NameKind} {ns : List (Str × NameKind)} {o : Option PV} {m m' : Mem} : Put v x k ns m m' → Put v x k (n :: ns) (o :: m) (o :: m')
theorem Put.get {v : PV} {x : Str} {k : NameKind} {ns : List (Str × NameKind)} {m m' : Mem} (h : Put v x k ns m m') : ∃ i : Nat, ns[i]? = some (x, k) ∧ m'[i]? = some (some v) ∧ ∀ j : Nat, j ≠ i → m'[j]? = m[j]? := by
  induction h with
  | head => exact ⟨0, rfl, rfl, fun j hj => by cases j with | zero => exact absurd rfl hj | succ j => rfl⟩
  | tail _ ih =>
    obtain ⟨i, a, b, c⟩ := ih
    refine ⟨i + 1, by simpa using a, by simpa using b, fun j hj => ?_⟩
    cases j with
    | zero => rfl
    | succ j => simpa using c j (fun e => hj (by rw [e]))

theorem nodup_get {ns : List (Str × NameKind)} (hn : (ns.map (·.1)).Nodup) {i j : Nat} {x : Str} {k l : NameKind} (h1 : ns[i]? = some (x, k)) (h2 : ns[j]? = some (x, l)) : i = j := by
  have e1 : (ns.map (·.1))[i]? = some x := by rw [List.getElem?_map, h1]; rfl
  have e2 : (ns.map (·.1))[j]? = some x := by rw [List.getElem?_map, h2]; rfl
  exact nodup_inj_str hn e1 e2
where
  nodup_inj_str {l : List Str} (h : l.Nodup) : ∀ {i j : Nat} {a : Str}, l[i]? = some a → l[j]? = some a → i = j := by
    induction l with
    | nil => intro i j a e; cases e
    | cons x r ih =>
      intro i j a e1 e2
      obtain ⟨hx, hr⟩ := List.nodup_cons.mp h
      cases i with
      | zero =>
        cases j with
        | zero => rfl
        | succ j =>
          simp at e1 e2
          subst e1
          exact absurd (List.mem_of_getElem? e2) hx
      | succ i =>
        cases j with
        | zero =>
          simp at e1 e2
          subst e2
          exact absurd (List.mem_of_getElem? e1) hx
        | succ j => exact congrArg (· + 1) (ih hr (a := a) (by simpa using e1) (by simpa using e2))

theorem store_local' {env : Env} {A : Around} {ρ : List Addr} {s : Shared} {Q : Unit → Shared → Prop} {E : Value → Shared → Prop} {x : Str} {v : PV} {cv : Value} (hE : EnvOK cs env) (R : Rel G env ρ m H s) (hp : Put v x .local cs.names m m') (hc : CV ρ v cv)
    (k : ∀ s', Stp (Own env) ρ s ρ s' → Rel G env ρ m' H s' → s'.heap.objs.size = s.heap.objs.size → Q () s') : wpAny G.M A (storeName env x cv) Q E s := by
  obtain ⟨i, hi, hv, hr⟩ := hp.get
  obtain ⟨mc, hn, hm⟩ := R.ns
  refine wpAny_storeName_local (hE.kindOf (List.mem_of_getElem? hi)) hn (fun h' hn' hs => ?_) (by rw [hE.scope, hE.kind]; rfl)
  have keep : ∀ b o, b ≠ env.locals → s.heap.get? b = some o → h'.get? b = some o := fun b o hb e => hs.extBut b o hb e
  have hb0 : ∀ b o, G.h₀.get? b = some o → b ≠ env.locals := fun b o e q => by rw [q, R.above] at e; cases e
  refine k _ ⟨List.prefix_refl _, fun _ h => .inl h, fun b o hw hb e => keep b o (fun q => hw (.inl q)) e, rfl, Nat.le_refl _, fun _ _ => rfl⟩ { keep := fun b o e => keep b o (hb0 b o e) (R.keep b o e), len := R.len, objs := fun j xs e => ?_, nodup := R.nodup, fresh := R.fresh, bare := R.bare, above := R.above, ns := ?_, cel := fun j y kk w hy hk hw => ?_, cok := fun y c hy => ?_, off := R.off } hs.1
  · obtain ⟨a, ha, us, n, hg, hcv⟩ := R.objs j xs e
    exact ⟨a, ha, us, n, keep _ _ (fun q => R.off (q ▸ List.mem_of_getElem? ha)) hg, hcv⟩
  · refine ⟨_, hn', fun j y w hy hw => ?_⟩
    by_cases hj : j = i
    · subst hj
      rw [hE.scope, hi] at hy
      rw [hv] at hw
      cases hy; cases hw
      exact ⟨cv, by simp, hc⟩
    · rw [hr j hj] at hw
      obtain ⟨cw, e, hcw⟩ := hm j y w hy hw
      have hne : y ≠ x := fun q => hj (by subst q; rw [hE.scope] at hy; exact nodup_get hE.nd hy hi)
      exact ⟨cw, by simp [hne, e], hcw⟩
  · have hj : j ≠ i := fun q => by
      subst q
      rw [hE.scope, hi] at hy
      cases hy
      rcases hk with q | q <;> cases q
    rw [hr j hj] at hw
    obtain ⟨c, cw, hl, ⟨o, ho, hd⟩, hcw⟩ := R.cel j y kk w hy hk hw
    exact ⟨c, cw, hl, ⟨o, keep _ _ (R.cok y c (Fra.of_stp.mem_of_lookup hl)).2.1 ho, hd⟩, hcw⟩
  · obtain ⟨h1, h2, h3, w, o, ho, hd⟩ := R.cok y c hy
    exact ⟨h1, h2, h3, w, o, keep _ _ h2 ho, hd⟩

theorem store_local {env : Env} {A : Around} {ρ : List Addr} {s : Shared} {Q : Unit → Shared → Prop} {E : Value → Shared → Prop} {x : Str} {v : PV} {cv : Value} (hE : EnvOK cs env) (R : Rel G env ρ m H s) (hp : Put v x .local cs.names m m') (hc : CV ρ v cv)
    (k : ∀ s', Stp (Own env) ρ s ρ s' → Rel G env ρ m' H s' → Q () s') : wpAny G.M A (storeName env x cv) Q E s :=
  store_local' hE R hp hc fun s' S R' _ => k s' S R'

theorem store_cell {env : Env} {A : Around} {ρ : List Addr} {s : Shared} {Q : Unit → Shared → Prop} {E : Value → Shared → Prop} {x : Str} {v : PV} {cv : Value} {c : Addr} (hE : EnvOK cs env) (R : Rel G env ρ m H s) (hp : Put v x .cell cs.names m m') (hc : CV ρ v cv) (hl : env.cells.lookup x = some c)
    (hinj : ∀ y, (y, c) ∈ env.cells → y = x)
    (k : ∀ s', Stp (Own env) ρ s ρ s' → Rel G env ρ m' H s' → Q () s') : wpAny G.M A (storeName env x cv) Q E s := by
  obtain ⟨i, hi, hv, hr⟩ := hp.get
  obtain ⟨mc, hn, hm⟩ := R.ns
  have hcm := Fra.of_stp.mem_of_lookup hl
  obtain ⟨c0, cL, cρ, w0, hcell⟩ := R.cok x c hcm
  refine wpAny_storeName_cell (by rw [hE.scope]; exact hE.kind) (hE.kindOf (List.mem_of_getElem? hi)) hl hcell (fun h' hn' hs => ?_)
  have keep : ∀ b o, b ≠ c → s.heap.get? b = some o → h'.get? b = some o := fun b o hb e => hs.extBut b o hb e
  refine k _ ⟨List.prefix_refl _, fun _ h => .inl h, fun b o hw hb e => keep b o (fun q => hw (.inr ⟨x, q ▸ hcm⟩)) e, rfl, Nat.le_refl _, fun _ _ => rfl⟩ { keep := fun b o e => keep b o (fun q => by rw [q, c0] at e; cases e) (R.keep b o e), len := R.len, objs := fun j xs e => ?_, nodup := R.nodup, fresh := R.fresh, bare := R.bare, above := R.above, ns := ?_, cel := fun j y kk w hy hk hw => ?_, cok := fun y c' hy => ?_, off := R.off }
  · obtain ⟨a, ha, us, n, hg, hcv⟩ := R.objs j xs e
    exact ⟨a, ha, us, n, keep _ _ (fun q => cρ (q ▸ List.mem_of_getElem? ha)) hg, hcv⟩
  · refine ⟨mc, hn.at' fun o e => keep _ o (Ne.symm cL) e, fun j y w hy hw => ?_⟩
    have hj : j ≠ i := fun q => by
      subst q
      rw [hE.scope, hi] at hy
      cases hy
    rw [hr j hj] at hw
    exact hm j y w hy hw
  · by_cases hj : j = i
    · subst hj
      rw [hE.scope, hi] at hy
      rw [hv] at hw
      cases hy; cases hw
      exact ⟨c, cv, hl, hn', hc⟩
    · rw [hr j hj] at hw
      obtain ⟨c', cw, hl', ⟨o, ho, hd⟩, hcw⟩ := R.cel j y kk w hy hk hw
      have hne : c' ≠ c := fun q => by
        subst q
        have e := hinj y (Fra.of_stp.mem_of_lookup hl')
        subst e
        rw [hE.scope] at hy
        exact hj (nodup_get hE.nd hy hi)
      exact ⟨c', cw, hl', ⟨o, keep _ _ hne ho, hd⟩, hcw⟩
  · obtain ⟨h1, h2, h3, w, o, ho, hd⟩ := R.cok y c' hy
    by_cases hq : c' = c
    · subst hq; exact ⟨h1, h2, h3, _, hn'⟩
    · exact ⟨h1, h2, h3, w, o, keep _ _ hq ho, hd⟩

theorem Ex.nil : Ex G cs d m H [] .next m H := fun env A ρ s Q E hE hA R k => wpAny_execs_nil (k ρ s _ (Stp.refl _ _ _) R .next)
theorem Ex.cons {st : Stmt} {sts : List Stmt} {f : PF} (h : Es G cs d m H st .next m₁ H₁) (h' : Ex G cs d m₁ H₁ sts f m₂ H₂) : Ex G cs d m H (st :: sts) f m₂ H₂ := fun env A ρ s Q E hE hA R k =>
  wpAny_execs_cons (h env A ρ s _ E hE hA R fun ρ₁ s₁ c S₁ R₁ hc => by
    cases hc
    exact h' env A ρ₁ s₁ Q E hE hA R₁ fun ρ₂ s₂ c S₂ R₂ hc => k ρ₂ s₂ c (Rel.trans S₁ R₁ S₂) R₂ hc)
theorem Ex.stop {st : Stmt} {sts : List Stmt} {f : PF} (h : Es G cs d m H st f m₁ H₁) (hf : f ≠ .next) : Ex G cs d m H (st :: sts) f m₁ H₁ := fun env A ρ s Q E hE hA R k =>
  wpAny_execs_cons (h env A ρ s _ E hE hA R fun ρ₁ s₁ c S₁ R₁ hc => by
    cases hc with
    | next => exact absurd rfl hf
    | brk => exact k ρ₁ s₁ _ S₁ R₁ .brk
    | cont => exact k ρ₁ s₁ _ S₁ R₁ .cont
    | ret hr => exact k ρ₁ s₁ _ S₁ R₁ (.ret hr))

theorem Es.assign {x : Str} {p : Pos} {value : Expr} {v : PV} (h : Ev G cs d m H value v H₁) (hp : Put v x .local cs.names m m')
    (hs : ∀ env, env.scope = cs → swapsWith value (some (.Name x p)) pos.line env = pure false := by intro env he; rfl) : Es G cs d m H (.Assign [.Name x p] value pos) .next m' H₁ := fun env A ρ s Q E hE hA R k =>
  wpAny_Assign_Name (h env A ρ s _ E hE hA R fun ρ₁ s₁ c S₁ R₁ hc => store_local hE R₁ hp hc fun s₂ S₂ R₂ => k ρ₁ s₂ _ (Rel.trans S₁ R₁ S₂) R₂ .next) (hs env hE.scope)

theorem Es.ret {e : Expr} {v : PV} (h : Ev G cs d m H e v H₁) : Es G cs d m H (.Return (some e) pos) (.ret v) m H₁ := fun env A ρ s Q E hE hA R k =>
  wpAny_Return_some (h env A ρ s _ E hE hA R fun ρ₁ s₁ c S₁ R₁ hc => k ρ₁ s₁ _ S₁ R₁ (.ret hc))
theorem Es.brk : Es G cs d m H (.Break pos) .brk m H := fun env A ρ s Q E hE hA R k => wpAny_Break (k ρ s _ (Stp.refl _ _ _) R .brk)

theorem Es.if {test : Expr} {body orelse : List Stmt} {b : Bool} {f : PF} (h : Tr G cs d m H test b H₁) (h' : Ex G cs d m H₁ (if b then body else orelse) f m₂ H₂) : Es G cs d m H (.If test body orelse pos) f m₂ H₂ := fun env A ρ s Q E hE hA R k =>
  wpAny_If (h env A ρ s _ E hE hA R fun ρ₁ s₁ c S₁ R₁ hc => by
    subst hc
    have := h' env A ρ₁ s₁ Q E hE hA R₁ fun ρ₂ s₂ c S₂ R₂ hc => k ρ₂ s₂ c (Rel.trans S₁ R₁ S₂) R₂ hc
    cases c <;> exact this)

theorem Es.expr {e : Expr} (h : Ev G cs d m H e .none H₁) (hi : ∀ env, env.scope = cs → interactive env = false := by intro env he; unfold interactive; rw [he]; rfl)
    (hs : ∀ env, env.scope = cs → swapsWith e none pos.line env = pure false := by intro env he; rfl) : Es G cs d m H (.Expr e pos) .next m H₁ := fun env A ρ s Q E hE hA R k =>
  wpAny_Expr (h env A ρ s _ E hE hA R fun ρ₁ s₁ c S₁ R₁ hc => by cases hc; exact k ρ₁ s₁ _ S₁ R₁ .next) (hi env hE.scope) (hs env hE.scope)

theorem Es.aug {x : Str} {p : Pos} {op : Operator} {value : Expr} {a b v : PV} (ha : At a x .local cs.names m) (h : Ev G cs d m H value b H₁) (ho : Op2 G (inplaceOp op) a b v) (hp : Put v x .local cs.names m m') : Es G cs d m H (.AugAssign (.Name x p) op value pos) .next m' H₁ := fun env A ρ s Q E hE hA R k => by
  obtain ⟨mc, hn, hm⟩ := R.ns
  obtain ⟨i, h1, h2⟩ := ha.get
  obtain ⟨ca, e, hc⟩ := hm i x a (by rw [hE.scope]; exact h1) h2
  refine wpAny_AugAssign_Name (wpAny_loadName_local (by rw [hE.scope]; exact hE.kind) (hE.kindOf (List.mem_of_getElem? h1)) hn e ?_)
  refine h env A ρ s _ E hE hA R fun ρ₁ s₁ cb S₁ R₁ hb => ?_
  refine ho ρ₁ ca cb A s₁ _ E (hc.mono S₁.pre) hb fun cv tk hcv => ?_
  exact store_local hE (R₁.tok tk).1 hp hcv fun s₂ S₂ R₂ => k ρ₁ s₂ _ (Rel.trans (Rel.trans S₁ R₁ (R₁.tok tk).2) (R₁.tok tk).1 S₂) R₂ .next
theorem op_iadd {a b : Int} : Op2 G (inplaceOp .Add) (.int a) (.int b) (.int (a + b)) := fun ρ ca cb A s Q E h1 h2 k => by
  cases h1; cases h2; exact P.iadd_int (k _ _ (.int _ _))
theorem op_isub {a b : Int} : Op2 G (inplaceOp .Sub) (.int a) (.int b) (.int (a - b)) := fun ρ ca cb A s Q E h1 h2 k => by
  cases h1; cases h2; exact P.isub_int (k _ _ (.int _ _))

/-- a while loop's way, by the number of its turns -/
inductive Wh (G : Gd) (cs : Scope) (d : Nat) (test : Expr) (body : List Stmt) : Nat → Mem → Hp → PF → Mem → Hp → Prop
  | done {n : Nat} {m : Mem} {H H₁ : Hp} : Tr G cs d m H test false H₁ → Wh G cs d test body n m H .next m H₁
  | step {n : Nat} {m m₁ m₂ : Mem} {H H₁ H₂ H₃ : Hp} {f : PF} : Tr G cs d m H test true H₁ → Ex G cs d m H₁ body .next m₁ H₂ → Wh G cs d test body n m₁ H₂ f m₂ H₃ → Wh G cs d test body (n + 1) m H f m₂ H₃

theorem Es.while {test : Expr} {body : List Stmt} {n : Nat} {f : PF} (h : Wh G cs d test body n m H f m' H') : Es G cs d m H (.While test body [] pos) f m' H' := fun env A ρ s Q E hE hA R k => by
  refine wpAny_While (codeAny_whileLoop (fun j s' => ∃ ρ' m₁ H₁, Stp (Own env) ρ s ρ' s' ∧ Rel G env ρ' m₁ H₁ s' ∧ Wh G cs d test body j m₁ H₁ f m' H') ?_ n ⟨ρ, m, H, Stp.refl _ _ _, R, h⟩)
  rintro j s' ⟨ρ', m₁, H₁, S', R', w⟩
  cases w with
  | done ht =>
    refine ht env A ρ' s' _ _ hE hA R' fun ρ₁ s₁ c S₁ R₁ hc => ?_
    subst hc
    exact wpAny_execs_nil (k ρ₁ s₁ _ (Rel.trans S' R' S₁) R₁ .next)
  | step ht hb hw =>
    refine ht env A ρ' s' _ _ hE hA R' fun ρ₁ s₁ c S₁ R₁ hc => ?_
    subst hc
    refine hb env A ρ₁ s₁ _ _ hE hA R₁ fun ρ₂ s₂ c S₂ R₂ hc => ?_
    cases hc
    exact ⟨_, Nat.lt_succ_self _, ρ₂, _, _, Rel.trans (Rel.trans S' R' S₁) R₁ S₂, R₂, hw⟩

/-- what one item of an iterable is -/
noncomputable abbrev ItP := List Addr → Value → Shared → Prop
noncomputable def ItP.of (v : PV) : ItP := fun ρ cv _ => CV ρ v cv

/-- what an iterator's step changes -/
structure Chg (fp : List Addr) (g0 : Nat) (s s' : Shared) : Prop where
  heap : ∀ b o, b ∉ fp → s.heap.get? b = some o → s'.heap.get? b = some o
  os : s'.os = s.os
  gsz : s.gens.size ≤ s'.gens.size
  gen : ∀ i, i < g0 → s'.gens[i]? = s.gens[i]?
  bare : (∀ x ∈ s.gens, x.bare = true) → ∀ x ∈ s'.gens, x.bare = true
structure IterOK (G : Gd) (A : Around) (target : Expr) (ρ₀ : List Addr) (I : Addr) (g0 : Nat) (items : List ItP) (ok : Hp → Prop) (St : Nat → List Addr → Shared → Prop) : Prop where
  item : ∀ (ρ : List Addr) (H : Hp) (s : Shared) (i : Nat) (fp : List Addr) (P : ItP) (Q : Value → Shared → Prop) (E : Value → Shared → Prop), ρ₀ <+: ρ → Rel0 G ρ H s → ok H → St i fp s → items[i]? = some P →
    (∀ s' cv fp', St (i + 1) fp' s' → Chg fp g0 s s' → (∀ b ∈ fp', (b ∈ fp ∨ s.heap.get? b = none) ∧ ∃ o, s'.heap.get? b = some o) → P ρ cv s' → Q cv s') →
    wpAny G.M A (pyNext (.ref I)) (fun r s₁ => ∃ v, r = some v ∧ wpAny G.M A (letOwnedTupleGo target (.ref I) v) (fun _ s' => Q v s') E s₁) E s
  done : ∀ (ρ : List Addr) (H : Hp) (s : Shared) (fp : List Addr) (Q : Option Value → Shared → Prop) (E : Value → Shared → Prop), ρ₀ <+: ρ → Rel0 G ρ H s → ok H → St items.length fp s →
    (∀ s', Chg fp g0 s s' → Q none s') → wpAny G.M A (pyNext (.ref I)) Q E s
  stable : ∀ i fp s s', St (i + 1) fp s → (∀ b ∈ fp, ∀ o, s.heap.get? b = some o → s'.heap.get? b = some o) → s.gens.size ≤ s'.gens.size → (∀ i, g0 ≤ i → i < s.gens.size → s'.gens[i]? = s.gens[i]?) → St (i + 1) fp s'
  self : ∀ (s : Shared) (fp : List Addr) (Q : Value → Shared → Prop) (E : Value → Shared → Prop), St 0 fp s → Q (.ref I) s → wpAny G.M A (pyIter (.ref I)) Q E s

theorem Rel.chg {env : Env} {ρ : List Addr} {s s' : Shared} {fp : List Addr} {g0 : Nat} (R : Rel G env ρ m H s) (c : Chg fp g0 s s') (hfp : ∀ b ∈ fp, b ∉ ρ ∧ ¬ Own env b ∧ G.h₀.get? b = none) : Rel G env ρ m H s' := by
  have hw : ∀ b o, Own env b → s.heap.get? b = some o → s'.heap.get? b = some o := fun b o hb e => c.heap b o (fun h => (hfp b h).2.1 hb) e
  refine { keep := fun b o e => c.heap b o (fun h => by have := (hfp b h).2.2; rw [e] at this; cases this) (R.keep b o e), len := R.len, objs := fun i xs e => ?_, nodup := R.nodup, fresh := R.fresh, bare := c.bare R.bare, above := R.above, ns := ?_, cel := fun i x k v hi hk hv => ?_, cok := fun x q hx => ?_, off := R.off }
  · obtain ⟨a, ha, us, n, hg, hcv⟩ := R.objs i xs e
    exact ⟨a, ha, us, n, c.heap _ _ (fun h => (hfp a h).1 (List.mem_of_getElem? ha)) hg, hcv⟩
  · obtain ⟨mc, hn, hm⟩ := R.ns
    exact ⟨mc, hn.at' fun o e => hw _ o (.inl rfl) e, hm⟩
  · obtain ⟨q, cv, hl, ⟨o, ho, hd⟩, hcv⟩ := R.cel i x k v hi hk hv
    exact ⟨q, cv, hl, ⟨o, hw _ _ (.inr ⟨x, Fra.of_stp.mem_of_lookup hl⟩) ho, hd⟩, hcv⟩
  · obtain ⟨h1, h2, h3, v, o, ho, hd⟩ := R.cok x q hx
    exact ⟨h1, h2, h3, v, o, hw _ _ (.inr ⟨x, hx⟩) ho, hd⟩

/-- an assignment to a target of a loop, of an item -/
noncomputable def Asg (G : Gd) (cs : Scope) (d : Nat) (target : Expr) (P : ItP) (m : Mem) (H : Hp) (m' : Mem) : Prop := ∀ (env : Env) (A : Around) (ρ : List Addr) (s : Shared) (cv : Value) (Q : Unit → Shared → Prop) (E : Value → Shared → Prop), EnvOK cs env → AOk d A → Rel G env ρ m H s → P ρ cv s →
  (∀ s', Stp (Own env) ρ s ρ s' → Rel G env ρ m' H s' → Q () s') → wpAny G.M A (assign target env cv) Q E s
theorem Asg.name {x : Str} {v : PV} (hp : Put v x .local cs.names m m') : Asg G cs d (.Name x pos) (.of v) m H m' := fun env A ρ s cv Q E hE hA R hc k =>
  wpAny_assign_Name (store_local hE R hp hc fun s' S R' => k s' S R')

/-- a for loop's way over the items that are left -/
inductive Fo (G : Gd) (cs : Scope) (d : Nat) (target : Expr) (body : List Stmt) (ok : Hp → Prop) : List ItP → Mem → Hp → PF → Mem → Hp → Prop
  | done {m : Mem} {H : Hp} : ok H → Fo G cs d target body ok [] m H .next m H
  | step {P : ItP} {Ps : List ItP} {m m₁ m₂ m₃ : Mem} {H H₁ H₂ : Hp} {f : PF} : ok H → Asg G cs d target P m H m₁ → Ex G cs d m₁ H body .next m₂ H₁ → Fo G cs d target body ok Ps m₂ H₁ f m₃ H₂ → Fo G cs d target body ok (P :: Ps) m H f m₃ H₂
  | brk {P : ItP} {Ps : List ItP} {m m₁ m₂ : Mem} {H H₁ : Hp} : ok H → Asg G cs d target P m H m₁ → Ex G cs d m₁ H body .brk m₂ H₁ → Fo G cs d target body ok (P :: Ps) m H .next m₂ H₁
  | ret {P : ItP} {Ps : List ItP} {m m₁ m₂ : Mem} {H H₁ : Hp} {v : PV} : ok H → Asg G cs d target P m H m₁ → Ex G cs d m₁ H body (.ret v) m₂ H₁ → Fo G cs d target body ok (P :: Ps) m H (.ret v) m₂ H₁

/-- an iterable: from the text to the iterator -/
noncomputable def Itb (G : Gd) (cs : Scope) (d : Nat) (m : Mem) (H : Hp) (target iter : Expr) (items : List ItP) (ok : Hp → Prop) (H' : Hp) : Prop :=
  ∀ (env : Env) (A : Around) (ρ : List Addr) (s : Shared) (Q : Value → Shared → Prop) (E : Value → Shared → Prop), EnvOK cs env → AOk d A → Rel G env ρ m H s →
    (∀ ρ' s' I fp St, Stp (Own env) ρ s ρ' s' → Rel G env ρ' m H' s' → IterOK G A target ρ' I s.gens.size items ok St → St 0 fp s' → (∀ b ∈ fp, s.heap.get? b = none ∧ b ∉ ρ' ∧ ¬ Own env b ∧ G.h₀.get? b = none ∧ ∃ o, s'.heap.get? b = some o) → Q (.ref I) s') →
    wpAny G.M A (eval iter env) (fun xv s₁ => wpAny G.M A (pyIter xv) (fun it s₂ => Q it s₂) E s₁) E s

/-- an iterable whose iterator waits as it is -/
noncomputable def ItbS (G : Gd) (cs : Scope) (d : Nat) (m : Mem) (H : Hp) (target iter : Expr) (items : List ItP) (ok : Hp → Prop) (H' : Hp) : Prop :=
  ∀ (env : Env) (A : Around) (ρ : List Addr) (s : Shared) (Q : Value → Shared → Prop) (E : Value → Shared → Prop), EnvOK cs env → AOk d A → Rel G env ρ m H s →
    (∀ ρ' s' I fp St, Stp (Own env) ρ s ρ' s' → Rel G env ρ' m H' s' → (∀ g0, IterOK G A target ρ' I g0 items ok St) → St 0 fp s' → (∀ b ∈ fp, s.heap.get? b = none ∧ b ∉ ρ' ∧ ¬ Own env b ∧ G.h₀.get? b = none ∧ ∃ o, s'.heap.get? b = some o) → (∀ fp' s₁ s₂, St 0 fp' s₁ → (∀ b ∈ fp', ∀ o, s₁.heap.get? b = some o → s₂.heap.get? b = some o) → St 0 fp' s₂) → (∀ i fp' s₁, St i fp' s₁ → fp' = fp) → Q (.ref I) s') →
    wpAny G.M A (eval iter env) (fun xv s₁ => wpAny G.M A (pyIter xv) (fun it s₂ => Q it s₂) E s₁) E s
theorem ItbS.toItb {target iter : Expr} {items : List ItP} {ok : Hp → Prop} (h : ItbS G cs d m H target iter items ok H₁) : Itb G cs d m H target iter items ok H₁ := fun env A ρ s Q E hE hA R k =>
  h env A ρ s Q E hE hA R fun ρ' s' I fp St a b c e f _ _ => k ρ' s' I fp St a b (c _) e f

theorem Rel0.alive {ρ : List Addr} {s : Shared} (R : Rel0 G ρ H s) {a : Addr} (h : a ∈ ρ) : ∃ o, s.heap.get? a = some o := by
  obtain ⟨i, hi, e'⟩ := List.getElem_of_mem h
  obtain ⟨b, hb, us, q, hg, _⟩ := R.objs i (H[i]'(by rw [← R.len]; exact hi)) (by simp)
  have : ρ[i]? = some a := by rw [List.getElem?_eq_getElem hi, e']
  rw [this] at hb; cases hb
  exact ⟨_, hg⟩
theorem fresh_facts {env : Env} {ρ ρ₁ : List Addr} {s s₁ : Shared} (S₁ : Stp (Own env) ρ s ρ₁ s₁) (R₁ : Rel G env ρ₁ m H₁ s₁) {a : Addr} (h : s₁.heap.get? a = none) : s.heap.get? a = none ∧ a ∉ ρ₁ ∧ ¬ Own env a ∧ G.h₀.get? a = none := by
  have h1 : a ∉ ρ₁ := fun hm => by obtain ⟨o, ho⟩ := R₁.toRel0.alive hm; rw [h] at ho; cases ho
  have h2 : ¬ Own env a := fun hw => by obtain ⟨o, ho⟩ := R₁.toFra.alive hw; rw [h] at ho; cases ho
  refine ⟨?_, h1, h2, ?_⟩
  · cases q : s.heap.get? a with
    | none => rfl
    | some o =>
      have := S₁.frame a o h2 (fun hm => h1 (S₁.pre.subset hm)) q
      rw [h] at this; cases this
  · cases q : G.h₀.get? a with
    | none => rfl
    | some o => have := R₁.keep _ o q; rw [h] at this; cases this

theorem letgo_quiet {target : Expr} {A : Around} {s : Shared} {Q : Unit → Shared → Prop} {E : Value → Shared → Prop} {I : Addr} {v : Value} {o : Obj} {T : String} (ho : s.heap.get? I = some o) (hc : o.cls = .type T)
    (hn : (["enumerate", "zip", "dict_itemiterator", "dict_reverseitemiterator", "odict_iterator", "itertools.zip_longest", "itertools.pairwise"].contains T) = false) (k : Q () s) : wpAny G.M A (letOwnedTupleGo target (.ref I) v) Q E s := by
  have key : ∀ b : Addr, wpAny G.M A (do
      let o ← load I
      match o.cls, o.data with
      | .type n, .fields vs =>
        if ["enumerate", "zip", "dict_itemiterator", "dict_reverseitemiterator", "odict_iterator", "itertools.zip_longest", "itertools.pairwise"].contains n && vs[0]? == some (rawInt b) then
          rule "for.unpacks-the-owned-tuple"
          updateField I 0 .none
      | _, _ => pure ()) Q E s := by
    intro b
    refine wpAny_bind (wpAny_load ho ?_)
    rw [hc]
    cases o.data <;> first | exact wpAny_pure k | (dsimp only; rw [hn]; exact wpAny_pure k)
  cases target <;> first | exact wpAny_pure k | (cases v <;> first | exact wpAny_pure k | exact key _)

theorem Stp.chg {W : Addr → Prop} {ρ ρ' : List Addr} {s s' s'' : Shared} {fp : List Addr} (S : Stp W ρ s ρ' s') (c : Chg fp s.gens.size s' s'') (hfp : ∀ b ∈ fp, s.heap.get? b = none) : Stp W ρ s ρ' s'' :=
  ⟨S.pre, S.new, fun b o hw hb e => c.heap b o (fun h => by have := hfp b h; rw [e] at this; cases this) (S.frame b o hw hb e), c.os.trans S.os, Nat.le_trans S.gsz c.gsz, fun i hi => (c.gen i hi).trans (S.gen i hi)⟩

theorem Es.for {target iter : Expr} {body : List Stmt} {items : List ItP} {ok : Hp → Prop} {f : PF} (hi : Itb G cs d m H target iter items ok H₁) (h : Fo G cs d target body ok items m H₁ f m' H')
    (hs : ∀ env x, foldedSetIterable iter env x = pure x := by intro _ _; rfl) : Es G cs d m H (.For target iter body [] pos) f m' H' := fun env A ρ s Q E hE hA R k => by
  refine wpAny_For (hi env A ρ s _ E hE hA R fun ρ₁ s₁ I fp St S₁ R₁ W st0 hfp => ?_) (hs env)
  refine codeAny_loop' rfl (fun j s' => ∃ i ρ' m₁ H₁ fp, (j + i = items.length + 1 ∧ i ≤ items.length) ∧ Stp (Own env) ρ s ρ' s' ∧ Rel G env ρ' m₁ H₁ s' ∧ ρ₁ <+: ρ' ∧ St i fp s' ∧ (∀ b ∈ fp, s.heap.get? b = none ∧ b ∉ ρ' ∧ ¬ Own env b ∧ G.h₀.get? b = none ∧ ∃ o, s'.heap.get? b = some o) ∧ Fo G cs d target body ok (items.drop i) m₁ H₁ f m' H') ?_ (items.length + 1)
    ⟨0, ρ₁, m, _, fp, ⟨rfl, Nat.zero_le _⟩, S₁, R₁, List.prefix_refl _, st0, hfp, h⟩
  rintro j s' ⟨i, ρ', m₁, H₂, fp, ⟨hj, hile⟩, S', R', hpre, hst, hal, w⟩
  show wpAny _ _ ((forTurn target (.ref I) body [] env).onRaise (fun x => do noteFrame x env; theTreesLotGoes x)) _ _ s'
  refine wpAny_noted ?_
  simp only [forTurn]
  refine wpAny_bind (wpAny_standAt (wpAny_bind (wpAny_onRaise ?_)))
  have hfp0 : ∀ b ∈ fp, s.heap.get? b = none := fun b hb => (hal b hb).1
  have hfr : ∀ b ∈ fp, b ∉ ρ' ∧ ¬ Own env b ∧ G.h₀.get? b = none := fun b hb => ⟨(hal b hb).2.1, (hal b hb).2.2.1, (hal b hb).2.2.2.1⟩
  cases hd : items.drop i with
  | nil =>
    rw [hd] at w
    have hle : items.length ≤ i := List.drop_eq_nil_iff.mp hd
    have hi : i = items.length := Nat.le_antisymm hile hle
    subst hi
    cases w with
    | done hok =>
      refine W.done ρ' _ s' fp _ _ hpre R'.toRel0 hok hst fun s'' c => ?_
      refine wpAny_pure (.inr ⟨rfl, codeAny_block (wpAny_execs_nil ?_)⟩)
      exact k ρ' s'' _ (S'.chg c hfp0) (R'.chg c hfr) .next
  | cons P Ps =>
    rw [hd] at w
    have hlt : i < items.length := by
      false_or_by_contra
      rename_i hn
      rw [List.drop_eq_nil_iff.mpr (Nat.le_of_not_lt hn)] at hd
      cases hd
    have hget : items[i]? = some P := by
      have := congrArg (·[0]?) hd
      simpa using this
    have hdrop : items.drop (i + 1) = Ps := by
      have := congrArg (List.drop 1) hd
      simpa [List.drop_drop, Nat.add_comm] using this
    have pre : ∀ {m₂ : Mem} {Q' : Fin → Shared → Prop} {E' : Value → Shared → Prop} {K : Flow → Sem Fin}, ok H₂ → Asg G cs d target P m₁ H₂ m₂ →
        (∀ s₂ fp', Stp (Own env) ρ s ρ' s₂ → Rel G env ρ' m₂ H₂ s₂ → St (i + 1) fp' s₂ → (∀ b ∈ fp', s.heap.get? b = none ∧ b ∉ ρ' ∧ ¬ Own env b ∧ G.h₀.get? b = none ∧ ∃ o, s₂.heap.get? b = some o) → wpAny G.M A (execs body env >>= K) Q' E' s₂) →
        wpAny G.M A (pyNext (.ref I)) (fun r s₂ => wpAny G.M A (match r with
          | none => pure (.again (.block [] env))
          | some v => letOwnedTupleGo target (.ref I) v >>= fun _ => PySem.assign target env v >>= fun _ => execs body env >>= K) Q' E' s₂) E' s' := by
      intro m₂ Q' E' K hok ha next
      refine wpAny_mono (W.item ρ' _ s' i fp P (fun v s₂ => wpAny G.M A (PySem.assign target env v >>= fun _ => execs body env >>= K) Q' E' s₂) E' hpre R'.toRel0 hok hst hget fun s₁' cv fp' st₁ c hlv hP => ?_) (fun r s₂ h => ?_) fun _ _ h => h
      · have hal₁ : ∀ b ∈ fp', s.heap.get? b = none ∧ b ∉ ρ' ∧ ¬ Own env b ∧ G.h₀.get? b = none := fun b hb => by
          rcases (hlv b hb).1 with h | h
          · exact ⟨hfp0 b h, hfr b h⟩
          · exact fresh_facts S' R' h
        refine wpAny_bind (ha env A ρ' s₁' cv _ _ hE hA (R'.chg c hfr) hP fun s₂ S₂ R₂ => ?_)
        have hk : ∀ b ∈ fp', ∀ o, s₁'.heap.get? b = some o → s₂.heap.get? b = some o := fun b hb o e => S₂.frame b o (hal₁ b hb).2.2.1 (hal₁ b hb).2.1 e
        refine next s₂ fp' (Rel.trans (S'.chg c hfp0) (R'.chg c hfr) S₂) R₂ (W.stable _ _ _ _ st₁ hk S₂.gsz fun i _ hi => S₂.gen i hi) fun b hb => ⟨(hal₁ b hb).1, (hal₁ b hb).2.1, (hal₁ b hb).2.2.1, (hal₁ b hb).2.2.2, ?_⟩
        obtain ⟨o, e⟩ := (hlv b hb).2
        exact ⟨o, hk b hb o e⟩
      · obtain ⟨v, rfl, h⟩ := h
        exact wpAny_bind h
    have back : ∀ {ρ₃ : List Addr} {s₂ s₃ : Shared} {m₂ m₃ : Mem} {H₃ : Hp} {fp' : List Addr}, Stp (Own env) ρ s ρ' s₂ → Rel G env ρ' m₂ H₂ s₂ → St (i + 1) fp' s₂ → (∀ b ∈ fp', s.heap.get? b = none ∧ b ∉ ρ' ∧ ¬ Own env b ∧ G.h₀.get? b = none ∧ ∃ o, s₂.heap.get? b = some o) → Stp (Own env) ρ' s₂ ρ₃ s₃ → Rel G env ρ₃ m₃ H₃ s₃ →
        Stp (Own env) ρ s ρ₃ s₃ ∧ ρ₁ <+: ρ₃ ∧ St (i + 1) fp' s₃ ∧ ∀ b ∈ fp', s.heap.get? b = none ∧ b ∉ ρ₃ ∧ ¬ Own env b ∧ G.h₀.get? b = none ∧ ∃ o, s₃.heap.get? b = some o := fun {ρ₃ s₂ s₃ m₂ m₃ H₃ fp'} S₂ R₂ st₂ hal₂ S₃ R₃ => by
      have hk : ∀ b ∈ fp', ∀ o, s₂.heap.get? b = some o → s₃.heap.get? b = some o := fun b hb o e => S₃.frame b o (hal₂ b hb).2.2.1 (hal₂ b hb).2.1 e
      refine ⟨Rel.trans S₂ R₂ S₃, hpre.trans S₃.pre, W.stable _ _ _ _ st₂ hk S₃.gsz fun i _ hi => S₃.gen i hi, fun b hb => ?_⟩
      obtain ⟨h1, h2, h3, h4, o, e⟩ := hal₂ b hb
      refine ⟨h1, fun hm => ?_, h3, h4, o, hk b hb o e⟩
      rcases S₃.new b hm with h | h
      · exact h2 h
      · rw [e] at h; cases h
    cases w with
    | step hok ha hb hw =>
      refine wpAny_mono (pre hok ha fun s₂ fp' S₂ R₂ st₂ hal₂ => wpAny_bind (hb env A ρ' s₂ _ _ hE hA R₂ fun ρ₃ s₃ cf S₃ R₃ hcf => ?_)) (fun r s₂ h => by cases r <;> exact h) fun _ _ h => wpAny_standAt h
      cases hcf
      obtain ⟨b1, b2, b3, b4⟩ := back S₂ R₂ st₂ hal₂ S₃ R₃
      exact wpAny_pure (.inl ⟨rfl, j - 1, by (first | lia | omega), i + 1, ρ₃, _, _, fp', ⟨by (first | lia | omega), hlt⟩, b1, R₃, b2, b3, b4, by rw [hdrop]; exact hw⟩)
    | brk hok ha hb =>
      refine wpAny_mono (pre hok ha fun s₂ fp' S₂ R₂ st₂ hal₂ => wpAny_bind (hb env A ρ' s₂ _ _ hE hA R₂ fun ρ₃ s₃ cf S₃ R₃ hcf => ?_)) (fun r s₂ h => by cases r <;> exact h) fun _ _ h => wpAny_standAt h
      cases hcf
      exact wpAny_pure (k ρ₃ s₃ _ (Rel.trans S₂ R₂ S₃) R₃ .next)
    | ret hok ha hb =>
      refine wpAny_mono (pre hok ha fun s₂ fp' S₂ R₂ st₂ hal₂ => wpAny_bind (hb env A ρ' s₂ _ _ hE hA R₂ fun ρ₃ s₃ cf S₃ R₃ hcf => ?_)) (fun r s₂ h => by cases r <;> exact h) fun _ _ h => wpAny_standAt h
      cases hcf with
      | ret hv => exact wpAny_pure (k ρ₃ s₃ _ (Rel.trans S₂ R₂ S₃) R₃ (.ret hv))

end

section
variable {G : Gd} {cs : Scope} {d : Nat} {m m₁ m₂ m' : Mem} {H H₁ H₂ H₃ H' : Hp} {pos : Pos}

theorem IterOK.of_walks {A : Around} {target : Expr} {ρ₀ : List Addr} {I : Addr} {g0 : Nat} {items : List ItP} {n : Nat} {T : String} {Pv : Nat → Value → Prop} {St : Nat → Heap → Prop} (hA : A.handled = none) (W : Walks G.prog G.w A I [I] [I] n Pv St) (hn : items.length = n)
    (hP : ∀ i v P, Pv i v → items[i]? = some P → ∀ ρ s, P ρ v s) (hc : ∀ i h, St i h → ∃ o, h.get? I = some o ∧ o.cls = .type T)
    (hT : (["enumerate", "zip", "dict_itemiterator", "dict_reverseitemiterator", "odict_iterator", "itertools.zip_longest", "itertools.pairwise"].contains T) = false := by decide +kernel) :
    IterOK G A target ρ₀ I g0 items (fun _ => True) (fun i fp s => fp = [I] ∧ St i s.heap) where
  item := fun ρ H s i fp P Q E hpre R hok ⟨hfp, hst⟩ hget k => by
    subst hn hfp
    have hlt : i < items.length := (List.getElem?_eq_some_iff.mp hget).1
    refine W.item i s _ E hlt hst fun v h' tk hv hst' hk => ?_
    obtain ⟨o, ho, ho'⟩ := hc _ _ hst'
    refine ⟨v, rfl, letgo_quiet (s := { s with heap := h', toks := tk }) ho ho' hT ?_⟩
    exact k _ v [I] ⟨rfl, hst'⟩ ⟨fun b o hb e => hk b o hb e, rfl, Nat.le_refl _, fun _ _ => rfl, fun h => h⟩ (fun b hb => ⟨.inl hb, o, (List.mem_singleton.mp hb) ▸ ho⟩) (hP i v P hv hget _ _)
  done := fun ρ H s fp Q E hpre R hok ⟨hfp, hst⟩ k => by
    subst hn hfp
    exact W.done s Q E hst fun h' tk hk => k _ ⟨fun b o hb e => hk b o hb e, rfl, Nat.le_refl _, fun _ _ => rfl, fun h => h⟩
  stable := fun i fp s s' ⟨hfp, hst⟩ hk _ _ => ⟨hfp, by subst hfp; exact W.frame _ _ _ hst fun b hb o e => hk b hb o e⟩
  self := fun s fp Q E ⟨_, hst⟩ hq => W.self 0 s Q E hst hq

theorem ItbS.list {target iter : Expr} {n : Nat} {xs : List PV} (h : Ev G cs d m H iter (.ref n) H₁) (hx : H₁[n]? = some xs) : ItbS G cs d m H target iter (xs.map ItP.of) (fun H => H[n]? = some xs) H₁ := fun env A ρ s Q E hE hA R k =>
  h env A ρ s _ E hE hA R fun ρ₁ s₁ cv S₁ R₁ hc => by
    obtain ⟨_, rfl, e⟩ := hc.refE
    rename_i a
    obtain ⟨vs, hl, hcv⟩ := (R₁.toRel0.at hx e).isList
    refine wpAny_pyIter_list hl ?_
    obtain ⟨R2, S2⟩ := R₁.new { cls := .type "list_iterator", data := .fields #[.ref a, .int 0 0] } s₁.toks
    have hI := get?_size_none s₁.heap
    obtain ⟨hI0, hIρ, hIw, hIh⟩ := fresh_facts S₁ R₁ hI
    have haI : a ≠ s₁.heap.objs.size := fun q => hIρ (q ▸ List.mem_of_getElem? e)
    refine k ρ₁ _ s₁.heap.objs.size [s₁.heap.objs.size] (fun i fp s => fp = [s₁.heap.objs.size] ∧ s.heap.IsListIter s₁.heap.objs.size a i) (Rel.trans S₁ R₁ S2) R2 (fun g0 => ?_) ⟨rfl, _, Heap.get?_push_size _ rfl, rfl, rfl⟩ (fun b hb => ?_) (fun fp' s₁ s₂ ⟨hf, o, ho, h1⟩ hk => ⟨hf, o, hk _ (by simp [hf]) o ho, h1⟩) (fun i fp' s₁ h => h.1)
    · refine { item := fun ρ' H' s' i fp P Q' E' hpre R' hok ⟨hfp, hst⟩ hget kk => ?_, done := fun ρ' H' s' fp Q' E' hpre R' hok ⟨hfp, hst⟩ kk => ?_, stable := fun i fp s' s'' ⟨hfp, o, ho, h1⟩ hk _ _ => ⟨hfp, o, hk _ (by simp [hfp]) o ho, h1⟩, self := fun s' fp Q' E' hst hq => wpAny_pyIter_listiter hst.2 hq }
      · subst hfp
        obtain ⟨us, hl', hc'⟩ := (R'.at hok (prefix_get hpre e)).isList
        rw [List.getElem?_map] at hget
        obtain ⟨p, hp, rfl⟩ := Option.map_eq_some_iff.mp hget
        obtain ⟨u, hu, hpu⟩ := hc'.get hp
        refine wpAny_pyNext_list_item hst hl' (x := u) (by simpa using hu) fun h' hit' hs' => ?_
        obtain ⟨o, ho, ho', hd'⟩ := id hit'
        refine ⟨u, rfl, letgo_quiet (s := { s' with heap := h' }) ho ho' (by decide +kernel) ?_⟩
        exact kk _ u [s₁.heap.objs.size] ⟨rfl, hit'⟩ ⟨fun b o hb e => hs'.extBut b o (fun q => hb (by simp [q])) e, rfl, Nat.le_refl _, fun _ _ => rfl, fun h => h⟩ (fun b hb => ⟨.inl hb, o, (List.mem_singleton.mp hb) ▸ ho⟩) hpu
      · subst hfp
        obtain ⟨us, hl', hc'⟩ := (R'.at hok (prefix_get hpre e)).isList
        refine wpAny_pyNext_list_end hA.1 hst hl' ?_ fun h' he' => kk _ ⟨fun b o hb e => he' b o (fun q => hb (by simp [q])) e, rfl, Nat.le_refl _, fun _ _ => rfl, fun h => h⟩
        rw [List.length_map]
        simp [hc'.length]
    · rw [List.mem_singleton.mp hb]
      exact ⟨hI0, hIρ, hIw, hIh, _, Heap.get?_push_size _ rfl⟩

theorem Itb.list {target iter : Expr} {n : Nat} {xs : List PV} (h : Ev G cs d m H iter (.ref n) H₁) (hx : H₁[n]? = some xs) : Itb G cs d m H target iter (xs.map ItP.of) (fun H => H[n]? = some xs) H₁ := (ItbS.list h hx).toItb

/-- the range's numbers -/
noncomputable def rng (a c : Int) (n : Nat) : List Int := (List.range n).map fun (i : Nat) => a + (i : Int) * c

theorem iter_range {target : Expr} {env : Env} {A : Around} (hA : AOk d A) {ρ ρ₁ : List Addr} {s s₁ : Shared} {Q : Value → Shared → Prop} {E : Value → Shared → Prop} {r : Addr} {a b c : Int} {t u v : Tok} {n : Nat} (S₁ : Stp (Own env) ρ s ρ₁ s₁) (R₁ : Rel G env ρ₁ m H₁ s₁) (hr : IsRange s₁.heap r a b c t u v)
    (hsm : Builtin.Range.small a b c = true) (hn : Builtin.Range.rangeSize a b c = (n : Int))
    (k : ∀ ρ' s' I fp St, Stp (Own env) ρ s ρ' s' → Rel G env ρ' m H₁ s' → (∀ g0, IterOK G A target ρ' I g0 ((rng a c n).map fun i => ItP.of (.int i)) (fun _ => True) St) → St 0 fp s' → (∀ b ∈ fp, s.heap.get? b = none ∧ b ∉ ρ' ∧ ¬ Own env b ∧ G.h₀.get? b = none ∧ ∃ o, s'.heap.get? b = some o) → (∀ fp' s₁ s₂, St 0 fp' s₁ → (∀ b ∈ fp', ∀ o, s₁.heap.get? b = some o → s₂.heap.get? b = some o) → St 0 fp' s₂) → (∀ i fp' s₁, St i fp' s₁ → fp' = fp) → Q (.ref I) s') :
    wpAny G.M A (pyIter (.ref r)) Q E s₁ := by
  refine wpAny_pyIter_range hr hsm ?_
  obtain ⟨R2, S2⟩ := R₁.new { cls := .type "range_iterator", data := .fields #[rawInt a, rawInt (Builtin.Range.rangeSize a b c), rawInt c] } s₁.toks
  have hI := get?_size_none s₁.heap
  obtain ⟨hI0, hIρ, hIw, hIh⟩ := fresh_facts S₁ R₁ hI
  refine k ρ₁ _ s₁.heap.objs.size [s₁.heap.objs.size] _ (Rel.trans S₁ R₁ S2) R2 (fun g0 => IterOK.of_walks (n := n) (T := "range_iterator") hA.1 (Walks.range hA.1 s₁.heap.objs.size a c n) (by simp [rng]) ?_ (fun i h hst => ⟨_, hst, rfl⟩)) ?_ (fun b hb => ?_) (fun fp' s₁ s₂ ⟨hf, hst⟩ hk => ⟨hf, hk _ (by simp [hf]) _ hst⟩) (fun i fp' s₁ h => h.1)
  · rintro i v P ⟨t, rfl⟩ hP ρ s
    rw [List.getElem?_map] at hP
    obtain ⟨p, hp, rfl⟩ := Option.map_eq_some_iff.mp hP
    unfold rng at hp
    rw [List.getElem?_map] at hp
    obtain ⟨q, hq, rfl⟩ := Option.map_eq_some_iff.mp hp
    have : q = i := by
      have := List.getElem?_eq_some_iff.mp hq
      obtain ⟨h1, h2⟩ := this
      simpa using h2.symm
    subst this
    exact .int _ _
  · refine ⟨rfl, ?_⟩
    show IsRangeIter _ _ _ _ _
    rw [hn]
    simpa using Heap.get?_push_size _ rfl
  · rw [List.mem_singleton.mp hb]
    exact ⟨hI0, hIρ, hIw, hIh, _, Heap.get?_push_size _ rfl⟩

theorem ItbS.range1 {target : Expr} {p : Pos} {e : Expr} {n : Nat} (h0 : G.mg "range" = none) (hk : (("range" : Str), NameKind.globalImplicit) ∈ cs.names) (h : Ev G cs d m H e (.int n) H₁) (hn : n < 2 ^ 62) (hp : plainE e = true := by rfl) :
    ItbS G cs d m H target (.Call (.Name "range" p) [e] [] pos) ((rng 0 1 n).map fun i => ItP.of (.int i)) (fun _ => True) H₁ := fun env A ρ s Q E hE hA R k => by
  refine Call_ ?_ rfl
  refine (Ev.builtin (G := G) (d := d) (m := m) (H := H) (cs := cs) (x := "range") h0 PyProof.Rows.boot_range hk) env A ρ s _ E hE hA R fun ρ₁ s₁ cf S₁ R₁ hcf => ?_
  cases hcf
  refine callWith_type1 (spliced_more (h env A ρ₁ s₁ _ E hE hA R₁ fun ρ₂ s₂ cv S₂ R₂ hc => Calls.spliced_nil ?_) (starEach_plain hp)) (starEach_plain hp) rfl
  obtain ⟨t, rfl⟩ := hc.intE
  refine call_range_1 ?_
  obtain ⟨R3, S3⟩ := R₂.new { cls := .type "range", data := .fields #[.int 0 s₂.toks, .int n t, .int 1 (s₂.toks + 1)] } (s₂.toks + 1 + 1)
  have hsm : Builtin.Range.small 0 n 1 = true := small_one (by (first | lia | omega)) (by (first | lia | omega)) (by (first | lia | omega)) (by (first | lia | omega))
  exact iter_range hA (Rel.trans (Rel.trans S₁ R₁ S₂) R₂ S3) R3 (IsRange.new ..) hsm (by rw [rangeSize_nat]; simp) k

theorem Itb.range1 {target : Expr} {p : Pos} {e : Expr} {n : Nat} (h0 : G.mg "range" = none) (hk : (("range" : Str), NameKind.globalImplicit) ∈ cs.names) (h : Ev G cs d m H e (.int n) H₁) (hn : n < 2 ^ 62) (hp : plainE e = true := by rfl) :
    Itb G cs d m H target (.Call (.Name "range" p) [e] [] pos) ((rng 0 1 n).map fun i => ItP.of (.int i)) (fun _ => True) H₁ := (ItbS.range1 h0 hk h hn hp).toItb

theorem Itb.range3 {target : Expr} {p : Pos} {e₁ e₂ e₃ : Expr} {a b c : Int} {n : Nat} (h0 : G.mg "range" = none) (hk : (("range" : Str), NameKind.globalImplicit) ∈ cs.names) (ha : Ev G cs d m H e₁ (.int a) H) (hb : Ev G cs d m H e₂ (.int b) H) (hc : Ev G cs d m H e₃ (.int c) H)
    (hc0 : c ≠ 0) (hcs : c.natAbs < 1073741824) (hsm : Builtin.Range.small a b c = true) (hn : Builtin.Range.rangeSize a b c = (n : Int)) (hp : [e₁, e₂, e₃].all plainE = true := by rfl) :
    Itb G cs d m H target (.Call (.Name "range" p) [e₁, e₂, e₃] [] pos) ((rng a c n).map fun i => ItP.of (.int i)) (fun _ => True) H := fun env A ρ s Q E hE hA R k => by
  refine Call_ ?_ rfl
  refine (Ev.builtin (G := G) (d := d) (m := m) (H := H) (cs := cs) (x := "range") h0 PyProof.Rows.boot_range hk) env A ρ s _ E hE hA R fun ρ₁ s₁ cf S₁ R₁ hcf => ?_
  cases hcf
  simp only [List.all_cons, Bool.and_eq_true] at hp
  refine callWith_type1 (spliced_more (ha env A ρ₁ s₁ _ E hE hA R₁ fun ρ₂ s₂ ca S₂ R₂ hca => spliced_more (hb env A ρ₂ s₂ _ E hE hA R₂ fun ρ₃ s₃ cb S₃ R₃ hcb => spliced_more (hc env A ρ₃ s₃ _ E hE hA R₃ fun ρ₄ s₄ cc S₄ R₄ hcc => Calls.spliced_nil ?_) (starEach_plain hp.2.2.1)) (starEach_plain hp.2.1)) (starEach_plain hp.1)) (starEach_plain hp.1) (by
    rw [starEach_plain hp.2.1, starEach_plain hp.2.2.1]; rfl)
  cases hca with
  | int _ ta =>
  cases hcb with
  | int _ tb =>
  obtain ⟨tc, rfl⟩ := hcc.intE
  refine call_range_3 hc0 ?_ (.inl (PyProof.noPylong_small hcs))
  obtain ⟨R5, S5⟩ := R₄.new { cls := .type "range", data := .fields #[.int a ta, .int b tb, .int c tc] } s₄.toks
  exact iter_range hA (Rel.trans (Rel.trans (Rel.trans (Rel.trans S₁ R₁ S₂) R₂ S₃) R₃ S₄) R₄ S5) R5 (IsRange.new ..) hsm hn fun ρ' s' I fp St a b c e f _ _ => k ρ' s' I fp St a b (c _) e f

theorem Itb.str {target iter : Expr} {x : Str} (h : Ev G cs d m H iter (.str x) H₁) : Itb G cs d m H target iter (x.cps.toList.map fun c => ItP.of (.str ⟨#[c]⟩)) (fun _ => True) H₁ := fun env A ρ s Q E hE hA R k =>
  h env A ρ s _ E hE hA R fun ρ₁ s₁ cv S₁ R₁ hc => by
    obtain ⟨t, rfl⟩ := hc.strE
    have hI := get?_size_none s₁.heap
    obtain ⟨hI0, hIρ, hIw, hIh⟩ := fresh_facts S₁ R₁ hI
    have hP : ∀ i v P, SignAt x i v → (x.cps.toList.map fun c => ItP.of (.str ⟨#[c]⟩))[i]? = some P → ∀ ρ s, P ρ v s := by
      rintro i v P ⟨c, u, hc, rfl⟩ hP ρ s
      rw [List.getElem?_map] at hP
      obtain ⟨p, hp, rfl⟩ := Option.map_eq_some_iff.mp hP
      have : p = c := by
        rw [Array.getElem?_toList, hc] at hp
        exact (Option.some.inj hp).symm
      subst this
      exact .str _ _
    cases ha : x.cps.all (· < 128)
    · refine wpAny_pyIter_wide ha ?_
      obtain ⟨R2, S2⟩ := R₁.new { cls := .type "str_iterator", data := .fields #[.str x t, .int 0 0] } s₁.toks
      refine k ρ₁ _ s₁.heap.objs.size [s₁.heap.objs.size] _ (Rel.trans S₁ R₁ S2) R2 (IterOK.of_walks (T := "str_iterator") hA.1 (Walks.strWide hA.1 s₁.heap.objs.size x t) (by simp) hP (fun i h ⟨o, ho, hc, _⟩ => ⟨o, ho, hc⟩)) ⟨rfl, _, Heap.get?_push_size _ rfl, rfl, rfl⟩ fun b hb => ?_
      rw [List.mem_singleton.mp hb]
      exact ⟨hI0, hIρ, hIw, hIh, _, Heap.get?_push_size _ rfl⟩
    · refine wpAny_pyIter_ascii ha ?_
      obtain ⟨R2, S2⟩ := R₁.new { cls := .type "str_ascii_iterator", data := .fields #[.str x t, .int 0 0] } s₁.toks
      refine k ρ₁ _ s₁.heap.objs.size [s₁.heap.objs.size] _ (Rel.trans S₁ R₁ S2) R2 (IterOK.of_walks (T := "str_ascii_iterator") hA.1 (Walks.strAscii hA.1 s₁.heap.objs.size x t) (by simp) hP (fun i h ⟨o, ho, hc, _⟩ => ⟨o, ho, hc⟩)) ⟨rfl, _, Heap.get?_push_size _ rfl, rfl, rfl⟩ fun b hb => ?_
      rw [List.mem_singleton.mp hb]
      exact ⟨hI0, hIρ, hIw, hIh, _, Heap.get?_push_size _ rfl⟩

end

section
variable {G : Gd} {cs : Scope} {d : Nat} {m m₁ m₂ m' : Mem} {H H₁ H₂ H₃ H' : Hp} {pos : Pos}

theorem lookup_of_mem' {β : Type} {x : Str} {k : β} : ∀ {ns : List (Str × β)}, (ns.map (·.1)).Nodup → (x, k) ∈ ns → ns.lookup x = some k
  | (y, j) :: r, hn, h => by
    rw [List.map_cons, List.nodup_cons] at hn
    rcases List.mem_cons.mp h with e | h
    · cases e; simp
    · have hne : ¬ x = y := fun e => hn.1 (e ▸ List.mem_map.mpr ⟨(x, k), h, rfl⟩)
      rw [List.lookup_cons]
      have : (x == y) = false := by simpa using hne
      rw [this]
      exact lookup_of_mem' hn.2 h

structure DefOK (G : Gd) (f : Addr) (fd : FuncData) (ps : List Str) (rest : List (Str × NameKind)) (body : List Stmt) : Prop where
  o : ∃ o, G.h₀.get? f = some o ∧ o.data = .func fd
  cd : G.h₀.CodeRec fd.code fd.qualname
  bod : fd.body = .stmts body
  glob : fd.globals = mainGlobals
  bi : fd.builtins = builtinsNs
  clo : fd.closure = []
  co : fd.scope.isCoroutine = false
  gen : fd.scope.isGenerator = false
  kind : fd.scope.kind = .function
  names : fd.scope.names = ps.map (fun x => (x, NameKind.local)) ++ rest
  nd : (fd.scope.names.map (·.1)).Nodup
  nocell : ∀ x ∈ fd.scope.names, x.2 ≠ .cell
  nofree : ∀ x ∈ fd.scope.names, x.2 ≠ .free

theorem zip_get {ps : List Str} {vs : List Value} (hn : ps.Nodup) (hl : vs.length = ps.length) {i : Nat} {x : Str} {v : Value} (h1 : ps[i]? = some x) (h2 : vs[i]? = some v) : (ps.zip vs).reverse.lookup x = some v := by
  refine lookup_of_mem' ?_ ?_
  · rw [List.map_reverse, List.map_fst_zip (by (first | lia | omega))]
    exact List.pairwise_reverse.mpr (hn.imp Ne.symm)
  · rw [List.mem_reverse]
    refine List.mem_of_getElem? (i := i) ?_
    rw [List.getElem?_zip_eq_some]
    exact ⟨h1, h2⟩

theorem Cl.def {f : Addr} {fd : FuncData} {ps : List Str} {rest : List (Str × NameKind)} {body : List Stmt} {args args' : List PV} {fl : PF} {v : PV} (D : DefOK G f fd ps rest body) (hl : args'.length = ps.length)
    (hb : ∀ (ρ : List Addr) (s : Shared) (cas : List Value), (∀ b o, G.h₀.get? b = some o → s.heap.get? b = some o) → CVs ρ args cas → ∃ cas', BindsTo s fd ⟨cas, []⟩ (ps.zip cas') ∧ CVs ρ args' cas')
    (h : Ex G fd.scope d (args'.map some ++ List.replicate rest.length none) H body fl m' H') (hf : fl = .ret v ∨ (fl = .next ∧ v = .none)) : Cl G (d + 1) (.ref f) args H v H' := fun A ρ s cas Q E hA R hc k => by
  obtain ⟨o, ho, hd⟩ := D.o
  obtain ⟨cas', hbind, hc'⟩ := hb ρ s cas R.keep hc
  have hlc : cas'.length = ps.length := by rw [hc'.length, hl]
  have hndp : ps.Nodup := by
    have := D.nd
    rw [D.names, List.map_append, List.map_map] at this
    have h1 := (List.nodup_append.mp this).1
    simpa [Function.comp_def] using h1
  refine wpAny_call (codeAny_call_def (by have := hA.2.1; (first | lia | omega)) (R.keep _ _ ho) hd (G.lim.keeps R.keep) (D.cd.keeps R.keep) D.bod hbind D.nocell ?_ (fun h₁ hn hk => ?_) D.co D.gen D.kind)
  · intro x hx
    obtain ⟨a, b⟩ := x
    have hm := (List.of_mem_zip hx).1
    refine lookup_of_mem' D.nd ?_
    rw [D.names]
    exact List.mem_append_left _ (List.mem_map.mpr ⟨a, hm, rfl⟩)
  · have hE : EnvOK fd.scope (callEnv fd s.heap.objs.size f) := ⟨rfl, D.kind, D.glob, D.bi, D.co, D.nd, (fun x y c h => absurd (show (x, c) ∈ fd.closure from h) (by rw [D.clo]; exact List.not_mem_nil)), (fun x k h hk => hk.elim (fun q => absurd q (D.nocell _ h)) (fun q => absurd q (D.nofree _ h)))⟩
    obtain ⟨R1, S1⟩ := R.grow (h' := h₁) (tk := s.toks + (ps.zip cas').length) hk
    have hsz : G.h₀.get? s.heap.objs.size = none := by
      cases q : G.h₀.get? s.heap.objs.size with
      | none => rfl
      | some o => exact absurd (Heap.lt_size (R.keep _ _ q)) (Nat.lt_irrefl _)
    have hoff : s.heap.objs.size ∉ ρ := fun hm => by obtain ⟨o, e⟩ := R.alive hm; exact absurd (Heap.lt_size e) (Nat.lt_irrefl _)
    have RR : Rel G (callEnv fd s.heap.objs.size f) ρ (args'.map some ++ List.replicate rest.length none) H { s with heap := h₁, toks := s.toks + (ps.zip cas').length } :=
      { toRel0 := R1, above := hsz, ns := ⟨_, hn, fun i x w hi hw => ?_⟩, cel := fun i x kk w hi hk hw => ?_, cok := fun x c hx => ?_, off := hoff }
    · refine h _ (A.deeper _) ρ _ _ _ hE ⟨hA.1, ?_, ?_⟩ RR fun ρ' s' cf S' R' hcf => ?_
      · show A.depth + 1 + d < recursionLimit
        have := hA.2.1; (first | lia | omega)
      · show A.units + 3 + 8 * d + 90 < cLine
        have := hA.2.2; (first | lia | omega)
      · have S0 : Stp (fun _ => False) ρ s ρ' s' := by
          refine ⟨S'.pre, fun a ha => ?_, fun b o _ hb e => S'.frame b o ?_ hb (hk b o e), S'.os, S'.gsz, S'.gen⟩
          · rcases S'.new a ha with h | h
            · exact .inl h
            · refine .inr ?_
              cases q : s.heap.get? a with
              | none => rfl
              | some o => have := hk a o q; rw [h] at this; cases this
          · rintro (q | ⟨x, q⟩)
            · exact absurd (Heap.lt_size e) (by rw [q]; exact Nat.lt_irrefl _)
            · have hc0 : (callEnv fd s.heap.objs.size f).cells = [] := D.clo
              rw [hc0] at q; cases q
        rcases hf with rfl | ⟨rfl, rfl⟩
        · cases hcf with
          | ret hv => exact k ρ' s' _ S0 R'.toRel0 hv
        · cases hcf
          exact k ρ' s' _ S0 R'.toRel0 .none
    · have hi' : (ps.map (fun x => (x, NameKind.local)) ++ rest)[i]? = some (x, .local) := by rw [← D.names]; exact hi
      by_cases hlt : i < args'.length
      · rw [List.getElem?_append_left (by simpa using hlt)] at hw
        rw [List.getElem?_append_left (by simpa [← hl] using hlt)] at hi'
        rw [List.getElem?_map] at hw hi'
        obtain ⟨p, hp, e⟩ := Option.map_eq_some_iff.mp hw
        cases e
        obtain ⟨y, hy, e⟩ := Option.map_eq_some_iff.mp hi'
        cases e
        obtain ⟨cv, hcv, hcc⟩ := hc'.get hp
        exact ⟨cv, zip_get hndp hlc hy hcv, hcc⟩
      · rw [List.getElem?_append_right (by simpa using hlt)] at hw
        rw [List.getElem?_replicate] at hw
        split at hw <;> cases hw
    · exfalso
      have hm := List.mem_of_getElem? hi
      rcases hk with rfl | rfl
      · exact D.nocell _ hm rfl
      · exact D.nofree _ hm rfl
    · have hc0 : (callEnv fd s.heap.objs.size f).cells = [] := D.clo
      rw [hc0] at hx; cases hx

theorem cl_len {n : Nat} {xs : List PV} (hx : H[n]? = some xs) (hz : xs.length < 2 ^ 63) : Cl G d (.builtin "len") [.ref n] H (.int xs.length) H := fun A ρ s cas Q E hA R hc k => by
  cases hc with
  | cons c1 h =>
  cases h
  obtain ⟨_, rfl, e⟩ := c1.refE
  obtain ⟨vs, hl, hcv⟩ := (R.at hx e).isList
  refine len_list hl (by rw [List.size_toArray, hcv.length]; exact_mod_cast hz) ?_
  obtain ⟨R2, S2⟩ := R.grow (h' := s.heap) (tk := s.toks + 1 + 1) fun _ _ e => e
  refine k ρ _ _ S2 R2 ?_
  rw [List.size_toArray, hcv.length]
  exact .int _ _
theorem cl_len_str {x : Str} (hz : x.length < 2 ^ 63) : Cl G d (.builtin "len") [.str x] H (.int x.length) H := fun A ρ s cas Q E hA R hc k => by
  cases hc with
  | cons c1 h =>
  cases h
  obtain ⟨t, rfl⟩ := c1.strE
  obtain ⟨R2, S2⟩ := R.grow (h' := s.heap) (tk := s.toks + 1 + 1) fun _ _ e => e
  exact P.len_str (by (first | lia | omega)) (k ρ _ _ S2 R2 (.int _ _))
theorem cl_max2 {a b : Int} : Cl G d (.builtin "max") [.int a, .int b] H (.int (max a b)) H := fun A ρ s cas Q E hA R hc k => by
  cases hc with
  | cons c1 h =>
  cases h with
  | cons c2 h =>
  cases h
  cases c1 with
  | int _ ta =>
  obtain ⟨tb, rfl⟩ := c2.intE
  refine max_two_ints hA.1 fun h' tk hk => ?_
  obtain ⟨R2, S2⟩ := R.grow (h' := h') (tk := tk) hk
  refine k ρ _ _ S2 R2 ?_
  by_cases hab : b > a
  · rw [if_pos hab, Int.max_eq_right (Int.le_of_lt hab)]; exact .int _ _
  · rw [if_neg hab, Int.max_eq_left (Int.not_lt.mp hab)]; exact .int _ _

theorem intItems_of {ρ : List Addr} : ∀ {ns : List Int} {vs : List Value}, CVs ρ (ns.map PV.int) vs → ∃ xs : List (Int × Tok), vs = xs.map (fun p => Value.int p.1 p.2) ∧ xs.map (·.1) = ns
  | [], _, h => by cases h; exact ⟨[], rfl, rfl⟩
  | n :: r, _, h => by
    obtain ⟨_, _, rfl, a, b⟩ := h.consE
    obtain ⟨t, rfl⟩ := a.intE
    obtain ⟨xs, rfl, e⟩ := intItems_of b
    exact ⟨(n, t) :: xs, rfl, by simp [e]⟩

theorem cl_sum {n : Nat} {ns : List Int} (hx : H[n]? = some (ns.map PV.int)) : Cl G d (.builtin "sum") [.ref n] H (.int ns.sum) H := fun A ρ s cas Q E hA R hc k => by
  cases hc with
  | cons c1 h =>
  cases h
  obtain ⟨_, rfl, e⟩ := c1.refE
  obtain ⟨vs, hl, hcv⟩ := (R.at hx e).isList
  rename_i a0
  obtain ⟨xs, rfl, hns⟩ := intItems_of hcv
  have hl' : s.heap.IsList a0 (intItems xs.toArray) := by
    have e : intItems xs.toArray = (xs.map (fun p => Value.int p.1 p.2)).toArray := by simp [intItems]
    rw [e]; exact hl
  refine sum_intListG hA.1 hl' fun h' tk t' hk => ?_
  obtain ⟨R2, S2⟩ := R.grow (h' := h') (tk := tk) hk
  refine k ρ _ _ S2 R2 ?_
  rw [preSum_eq, List.take_of_length_le (by simp)]
  rw [hns]
  exact .int _ _

noncomputable def maxL : List Int → Int
  | [] => 0
  | a :: r => r.foldl max a
theorem foldl_max_ge : ∀ (l : List Int) (a : Int), a ≤ l.foldl max a ∧ ∀ x ∈ l, x ≤ l.foldl max a
  | [], a => ⟨Int.le_refl _, fun _ h => nomatch h⟩
  | b :: r, a => by
    obtain ⟨h1, h2⟩ := foldl_max_ge r (max a b)
    refine ⟨Int.le_trans (Int.le_max_left a b) h1, fun x hx => ?_⟩
    rcases List.mem_cons.mp hx with rfl | hx
    · exact Int.le_trans (Int.le_max_right a x) h1
    · exact h2 x hx
theorem foldl_max_mem : ∀ (l : List Int) (a : Int), l.foldl max a ∈ a :: l
  | [], a => by simp
  | b :: r, a => by
    rw [List.foldl_cons]
    have := foldl_max_mem r (max a b)
    rcases List.mem_cons.mp this with h | h
    · rw [h]
      rcases Int.le_total a b with q | q
      · rw [Int.max_eq_right q]; simp
      · rw [Int.max_eq_left q]; simp
    · simp [h]
theorem maxL_spec {l : List Int} (h : 0 < l.length) {M : Int} (hm : M ∈ l) (hge : ∀ a ∈ l, a ≤ M) : maxL l = M := by
  cases l with
  | nil => cases h
  | cons a r =>
    obtain ⟨h1, h2⟩ := foldl_max_ge r a
    have h3 := foldl_max_mem r a
    refine Int.le_antisymm (hge _ h3) ?_
    rcases List.mem_cons.mp hm with rfl | hm
    · exact h1
    · exact h2 M hm

theorem cl_maxL {n : Nat} {ns : List Int} (hx : H[n]? = some (ns.map PV.int)) (hne : 0 < ns.length) : Cl G d (.builtin "max") [.ref n] H (.int (maxL ns)) H := fun A ρ s cas Q E hA R hc k => by
  cases hc with
  | cons c1 h =>
  cases h
  obtain ⟨_, rfl, e⟩ := c1.refE
  obtain ⟨vs, hl, hcv⟩ := (R.at hx e).isList
  rename_i a0
  obtain ⟨xs, rfl, hns⟩ := intItems_of hcv
  have hl' : s.heap.IsList a0 (intItems xs.toArray) := by
    have e : intItems xs.toArray = (xs.map (fun p => Value.int p.1 p.2)).toArray := by simp [intItems]
    rw [e]; exact hl
  have hlen : xs.length = ns.length := by rw [← hns, List.length_map]
  have hns' : ns = xs.toArray.toList.map (·.1) := hns.symm
  refine max_intList hA.1 hl' (by rw [List.size_toArray]; (first | lia | omega)) fun v h' tk hv hk => ?_
  obtain ⟨t, rfl⟩ := intItems_at hv
  obtain ⟨h1, h2⟩ := argBest_gt (numAt xs.toArray) (xs.toArray.size - 1)
  obtain ⟨R2, S2⟩ := R.grow (h' := h') (tk := tk) hk
  have e1 : maxL ns = numAt xs.toArray (argBest (fun i j => decide (numAt xs.toArray i > numAt xs.toArray j)) (xs.toArray.size - 1)) := by
    refine maxL_spec hne ?_ fun a ha => ?_
    · rw [hns', numAt_eq]; exact getD_mem (by rw [List.length_map, Array.length_toList, List.size_toArray] at *; (first | lia | omega))
    · rw [hns'] at ha
      obtain ⟨j, hj, rfl⟩ := mem_getD ha
      rw [List.length_map, Array.length_toList] at hj
      rw [← numAt_eq]; exact h2 j (by (first | lia | omega))
  refine k ρ _ _ S2 R2 ?_
  rw [e1]
  exact .int _ _

theorem Rel0.mapSeq {ρ : List Addr} {s : Shared} (R : Rel0 G ρ H s) {n : Nat} {a : Addr} {vs us : List Value} {n' : Nat} {ys : List PV} (e : ρ[n]? = some a) (hg : s.heap.get? a = some (listOf (List.toArray vs) n')) (f : Array Value → Array Value) (hf : f (List.toArray vs) = List.toArray us) (hu : CVs ρ ys us) :
    Rel0 G ρ (H.set n ys) { s with heap := s.heap.update a (Obj.mapSeq f) } ∧ Stp (fun _ => False) ρ s ρ { s with heap := s.heap.update a (Obj.mapSeq f) } := by
  have q := PySem.IsL.update (n := n') hg f
  rw [hf] at q
  exact R.upd (tk := s.toks) (fun b o hb e => (Heap.SameBut.update ..).extBut b o hb e) e q hu

theorem CVs.set {ρ : List Addr} {ps : List PV} {vs : List Value} (h : CVs ρ ps vs) {p : PV} {v : Value} (hp : CV ρ p v) : ∀ i, CVs ρ (ps.set i p) (vs.set i v) := by
  induction h with
  | nil => intro i; exact .nil
  | cons a b ih => intro i; cases i with
    | zero => exact .cons hp b
    | succ i => exact .cons a (ih i)
theorem CVs.eraseIdx {ρ : List Addr} {ps : List PV} {vs : List Value} (h : CVs ρ ps vs) : ∀ i, CVs ρ (ps.eraseIdx i) (vs.eraseIdx i) := by
  induction h with
  | nil => intro i; exact .nil
  | cons a b ih => intro i; cases i with
    | zero => exact b
    | succ i => exact .cons a (ih i)

theorem cl_insert {n : Nat} {i : Int} {xs : List PV} {v : PV} (hx : H[n]? = some xs) (h0 : 0 ≤ i) (h1 : i ≤ xs.length) (hz : xs.length ≤ 1000) : Cl G d (.builtin "list.insert") [.ref n, .int i, v] H .none (H.set n (xs.take i.toNat ++ v :: xs.drop i.toNat)) := fun A ρ s cas Q E hA R hc k => by
  cases hc with
  | cons c1 h =>
  cases h with
  | cons c2 h =>
  cases h with
  | cons c3 h =>
  cases h
  cases c1 with
  | ref e =>
  obtain ⟨ti, rfl⟩ := c2.intE
  obtain ⟨vs, n', hg, hcv⟩ := R.at hx e
  rename_i cv a0
  have hl := hcv.length
  have hsl : sizeLine = 16777216 := by decide +kernel
  refine PySem.call_meets PySem.F.slot_list_insert ⟨_, hg, rfl⟩ PySem.F.entry_list_insert (PySem.F.args_list_insert_3 _ _ _) (PySem.AutoSeq1.list_insert_list_int_val_1 a0 _ n' i ti _ (by
    have : Builtin.List.listFitsIndex i = true := fitsIndex_of h0 (by (first | lia | omega))
    simp [this]) (by rw [List.size_toArray, hl, hsl]; (first | lia | omega))) ⟨hg, ?_⟩
  have hf : (fun xs : Array Value => have k := if i < 0 then (i + (xs.size : Int)).toNat else min i.toNat xs.size; (xs.extract 0 k).push cv ++ xs.extract k) vs.toArray = (vs.take i.toNat ++ cv :: vs.drop i.toNat).toArray := by
    have hk : (if i < 0 then (i + (vs.toArray.size : Int)).toNat else min i.toNat vs.toArray.size) = i.toNat := by
      rw [if_neg (by (first | lia | omega)), List.size_toArray]; (first | lia | omega)
    show (vs.toArray.extract 0 (if i < 0 then (i + (vs.toArray.size : Int)).toNat else min i.toNat vs.toArray.size)).push cv ++ vs.toArray.extract (if i < 0 then (i + (vs.toArray.size : Int)).toNat else min i.toNat vs.toArray.size) = _
    rw [hk, kl_ins_eq]
  obtain ⟨R2, S2⟩ := R.mapSeq e hg (fun xs : Array Value => have k := if i < 0 then (i + (xs.size : Int)).toNat else min i.toNat xs.size; (xs.extract 0 k).push cv ++ xs.extract k) hf ((hcv.take _).append (.cons c3 (hcv.drop _)))
  exact k ρ _ _ S2 R2 .none

theorem setAt {n : Nat} {i : Int} {xs : List PV} {v : PV} {A : Around} {ρ : List Addr} {s : Shared} {a : Addr} {ti : Tok} {cv : Value} {Q : Unit → Shared → Prop} {E : Value → Shared → Prop} (R : Rel0 G ρ H s) (hx : H[n]? = some xs) (h0 : 0 ≤ i) (h1 : i < xs.length) (hf : i < 2 ^ 63) (e : ρ[n]? = some a) (hc : CV ρ v cv)
    (k : ∀ s', Stp (fun _ => False) ρ s ρ s' → Rel0 G ρ (H.set n (xs.set i.toNat v)) s' → Q () s') : wpAny G.M A (setItem (.ref a) (.int i ti) cv) Q E s := by
  obtain ⟨vs, n', hg, hcv⟩ := R.at hx e
  refine ki_setAt hg h0 hf (by rw [List.size_toArray, hcv.length]; exact h1) ?_
  obtain ⟨R2, S2⟩ := R.mapSeq e hg (fun xs => xs.setIfInBounds i.toNat cv) (us := vs.set i.toNat cv) (by
    apply Array.toList_inj.mp
    simp) (hcv.set hc i.toNat)
  exact k _ S2 R2

theorem delAt {n : Nat} {i : Int} {xs : List PV} {A : Around} {ρ : List Addr} {s : Shared} {a : Addr} {ti : Tok} {Q : Unit → Shared → Prop} {E : Value → Shared → Prop} (R : Rel0 G ρ H s) (hx : H[n]? = some xs) (h0 : 0 ≤ i) (h1 : i < xs.length) (hz : xs.length ≤ 1000) (e : ρ[n]? = some a)
    (k : ∀ s', Stp (fun _ => False) ρ s ρ s' → Rel0 G ρ (H.set n (xs.eraseIdx i.toNat)) s' → Q () s') : wpAny G.M A (delItem (.ref a) (.int i ti)) Q E s := by
  obtain ⟨vs, n', hg, hcv⟩ := R.at hx e
  have hl := hcv.length
  have hsl : sizeLine = 16777216 := by decide +kernel
  have hi : seqIndex? i vs.toArray.size = some i.toNat := by
    unfold seqIndex?
    rw [List.size_toArray, hl]
    simp only [show ¬ i < 0 by (first | lia | omega), if_false]
    rw [if_pos (by simp; (first | lia | omega))]
  refine P.delItem_list (n := n') hg (fitsIndex_of h0 (by (first | lia | omega))) hi ?_ (by rw [List.size_toArray, hl, hsl]; (first | lia | omega))
  obtain ⟨R2, S2⟩ := R.mapSeq e hg (fun xs => xs.eraseIdxIfInBounds i.toNat) (us := vs.eraseIdx i.toNat) (by
    apply Array.toList_inj.mp
    simp) (hcv.eraseIdx i.toNat)
  exact k _ S2 R2

theorem Es.setitem {o idx value : Expr} {p : Pos} {n : Nat} {i : Int} {xs : List PV} {v : PV} (hv : Ev G cs d m H value v H) (ho : Ev G cs d m H o (.ref n) H) (hi : Ev G cs d m H idx (.int i) H) (hx : H[n]? = some xs) (h0 : 0 ≤ i) (h1 : i < xs.length) (hf : i < 2 ^ 63)
    (hs : ∀ env, env.scope = cs → swapsWith value (some (.Subscript o idx p)) pos.line env = pure false := by intro env he; rfl) : Es G cs d m H (.Assign [.Subscript o idx p] value pos) .next m (H.set n (xs.set i.toNat v)) := fun env A ρ s Q E hE hA R k =>
  wpAny_Assign_Subscript (hv env A ρ s _ E hE hA R fun ρ₁ s₁ cv S₁ R₁ c₁ => ho env A ρ₁ s₁ _ E hE hA R₁ fun ρ₂ s₂ co S₂ R₂ c₂ => hi env A ρ₂ s₂ _ E hE hA R₂ fun ρ₃ s₃ ci S₃ R₃ c₃ => by
    cases c₂ with
    | ref e =>
    obtain ⟨ti, rfl⟩ := c₃.intE
    exact setAt R₃.toRel0 hx h0 h1 hf (prefix_get S₃.pre e) (c₁.mono (S₂.pre.trans S₃.pre)) fun s' S4 R4 => k ρ₃ s' _ (Rel.trans (Rel.trans (Rel.trans S₁ R₁ S₂) R₂ S₃) R₃ S4.widen) { toRel0 := R4, toFra := R₃.toFra.of_stp S4 } .next) (hs env hE.scope)

theorem Es.delitem {o idx : Expr} {p : Pos} {n : Nat} {i : Int} {xs : List PV} (ho : Ev G cs d m H o (.ref n) H) (hi : Ev G cs d m H idx (.int i) H) (hx : H[n]? = some xs) (h0 : 0 ≤ i) (h1 : i < xs.length) (hz : xs.length ≤ 1000) : Es G cs d m H (.Delete [.Subscript o idx p] pos) .next m (H.set n (xs.eraseIdx i.toNat)) := fun env A ρ s Q E hE hA R k =>
  wpAny_Delete (wpAny_deleteEach_cons (delete_Subscript (ho env A ρ s _ E hE hA R fun ρ₂ s₂ co S₂ R₂ c₂ => hi env A ρ₂ s₂ _ E hE hA R₂ fun ρ₃ s₃ ci S₃ R₃ c₃ => by
    cases c₂ with
    | ref e =>
    obtain ⟨ti, rfl⟩ := c₃.intE
    exact delAt R₃.toRel0 hx h0 h1 hz (prefix_get S₃.pre e) fun s' S4 R4 => wpAny_deleteEach_nil (k ρ₃ s' _ (Rel.trans (Rel.trans S₂ R₂ S₃) R₃ S4.widen) { toRel0 := R4, toFra := R₃.toFra.of_stp S4 } .next))))

end

local macro_rules | `(tactic| walk_at "ux at") => `(tactic| (repeat (first | exact At.head | apply At.tail)))
local macro_rules | `(tactic| walk_at "ux bind1") => `(tactic| (intro ρ s cas _ hc; refine ⟨cas, ?_, hc⟩; obtain ⟨v, e, _⟩ := hc.one; subst e; exact BindsTo.of_eq rfl))
local macro_rules | `(tactic| walk_at "ux bind2") => `(tactic| (intro ρ s cas _ hc; refine ⟨cas, ?_, hc⟩; obtain ⟨v, u, e, _, _⟩ := hc.two; subst e; exact BindsTo.of_eq rfl))
local macro_rules | `(tactic| walk_at "ux bind3") => `(tactic| (intro ρ s cas _ hc; refine ⟨cas, ?_, hc⟩; obtain ⟨v, u, w, e, _, _, _⟩ := hc.three; subst e; exact BindsTo.of_eq rfl))
local macro_rules | `(tactic| walk_at "ux flow") => `(tactic| (intro h; cases h))
local macro_rules | `(tactic| walk_at "ux init") => `(tactic| (repeat (first | exact trivial | (refine ⟨by first | exact Or.inr rfl | exact Or.inl rfl, ?_⟩))))
local macro_rules | `(tactic| walk_at "ux mem") => `(tactic| (repeat (first | exact List.Mem.head _ | apply List.Mem.tail)))
local macro_rules | `(tactic| walk_at "ux put") => `(tactic| (repeat (first | exact Put.head | apply Put.tail)))
noncomputable abbrev KH := hd.heap_39
section
variable {G : Gd} {cs : Scope} {d : Nat} {m m₁ m₂ m' : Mem} {H H₁ H₂ H₃ H' : Hp} {pos : Pos}

structure GOK (G : Gd) : Prop where
  k : G.K = KH G.w.params
theorem GOK.X (g : GOK G) : (KH G.w.params).In G.h₀ := g.k ▸ G.X

theorem DefOK.of (g : GOK G) {f : Addr} {fd : FuncData} {ps : List Str} {rest : List (Str × NameKind)} {body : List Stmt} {oc : Value} {od : Option Addr} {sl : Array (Option Value)}
    (hl : (KH G.w.params).lookup f = some ⟨oc, od, .func fd, sl⟩) (hc : codeIn (KH G.w.params) fd.code fd.qualname = true) (bod : fd.body = .stmts body) (glob : fd.globals = mainGlobals) (bi : fd.builtins = builtinsNs) (clo : fd.closure = [])
    (co : fd.scope.isCoroutine = false) (gen : fd.scope.isGenerator = false) (kind : fd.scope.kind = .function) (names : fd.scope.names = ps.map (fun x => (x, NameKind.local)) ++ rest) (nd : (fd.scope.names.map (·.1)).Nodup)
    (nocell : ∀ x ∈ fd.scope.names, x.2 ≠ .cell) (nofree : ∀ x ∈ fd.scope.names, x.2 ≠ .free) : DefOK G f fd ps rest body :=
  ⟨⟨_, g.X _ _ hl, rfl⟩, codeRec_of g.X hc, bod, glob, bi, clo, co, gen, kind, names, nd, nocell, nofree⟩

theorem Cl.def' {f : Addr} {fd : FuncData} {ps : List Str} {rest : List (Str × NameKind)} {body : List Stmt} {args args' : List PV} {fl : PF} {v : PV} (D : DefOK G f fd ps rest body) (hl : args'.length = ps.length) (hf : fl = .ret v ∨ (fl = .next ∧ v = .none))
    (hb : ∀ (ρ : List Addr) (s : Shared) (cas : List Value), (∀ b o, G.h₀.get? b = some o → s.heap.get? b = some o) → CVs ρ args cas → ∃ cas', BindsTo s fd ⟨cas, []⟩ (ps.zip cas') ∧ CVs ρ args' cas')
    (h : ∃ m', Ex G fd.scope d (args'.map some ++ List.replicate rest.length none) H body fl m' H') : Cl G (d + 1) (.ref f) args H v H' :=
  let ⟨_, h⟩ := h; Cl.def D hl hb h hf

set_option maxRecDepth 100000 in
theorem sub_ok (g : GOK G) {a b : Int} : Cl G (d + 1) (.ref 92) [.int a, .int b] H (.int (a - b)) H := by
  have D := DefOK.of g (f := 92) (ps := ["a", "b"]) (rest := []) rfl rfl rfl rfl rfl rfl rfl rfl rfl rfl (by decide) (by decide) (by decide)
  refine Cl.def' (args' := [.int a, .int b]) (fl := .ret (.int (a - b))) D rfl (.inl rfl) (by walk_at "ux bind2") ?_
  refine ⟨_, Ex.stop (Es.ret (Ev.bin (Ev.local ?_) (Ev.local ?_) op_sub)) (by walk_at "ux flow")⟩
  · walk_at "ux at"
  · walk_at "ux at"
set_option maxRecDepth 100000 in
theorem add_ok (g : GOK G) {a b : Int} : Cl G (d + 1) (.ref 78) [.int a, .int b] H (.int (a + b)) H := by
  have D := DefOK.of g (f := 78) (ps := ["a", "b"]) (rest := []) rfl rfl rfl rfl rfl rfl rfl rfl rfl rfl (by decide) (by decide) (by decide)
  refine Cl.def' (args' := [.int a, .int b]) (fl := .ret (.int (a + b))) D rfl (.inl rfl) (by walk_at "ux bind2") ?_
  refine ⟨_, Ex.stop (Es.ret (Ev.bin (Ev.local ?_) (Ev.local ?_) op_add)) (by walk_at "ux flow")⟩
  · walk_at "ux at"
  · walk_at "ux at"
set_option maxRecDepth 100000 in
theorem mul_ok (g : GOK G) {a b : Int} (hm : IntMulOk a b) : Cl G (d + 1) (.ref 85) [.int a, .int b] H (.int (a * b)) H := by
  have D := DefOK.of g (f := 85) (ps := ["a", "b"]) (rest := []) rfl rfl rfl rfl rfl rfl rfl rfl rfl rfl (by decide) (by decide) (by decide)
  refine Cl.def' (args' := [.int a, .int b]) (fl := .ret (.int (a * b))) D rfl (.inl rfl) (by walk_at "ux bind2") ?_
  refine ⟨_, Ex.stop (Es.ret (Ev.bin (Ev.local ?_) (Ev.local ?_) (op_mul hm))) (by walk_at "ux flow")⟩
  · walk_at "ux at"
  · walk_at "ux at"
set_option maxRecDepth 100000 in
theorem rep_ok (g : GOK G) {a : Str} {b : Int} (hm : MulOk a b) : Cl G (d + 1) (.ref 85) [.str a, .int b] H (.str (Txt.mul a b)) H := by
  have D := DefOK.of g (f := 85) (ps := ["a", "b"]) (rest := []) rfl rfl rfl rfl rfl rfl rfl rfl rfl rfl (by decide) (by decide) (by decide)
  refine Cl.def' (args' := [.str a, .int b]) (fl := .ret (.str (Txt.mul a b))) D rfl (.inl rfl) (by walk_at "ux bind2") ?_
  refine ⟨_, Ex.stop (Es.ret (Ev.bin (Ev.local ?_) (Ev.local ?_) (op_rep hm))) (by walk_at "ux flow")⟩
  · walk_at "ux at"
  · walk_at "ux at"
set_option maxRecDepth 100000 in
theorem getitem_ok (g : GOK G) {n : Nat} {i : Int} {xs : List PV} {v : PV} (hx : H[n]? = some xs) (h0 : 0 ≤ i) (hf : i < 2 ^ 63) (hg : xs[i.toNat]? = some v) : Cl G (d + 1) (.ref 113) [.ref n, .int i] H (v) H := by
  have D := DefOK.of g (f := 113) (ps := ["a", "b"]) (rest := []) rfl rfl rfl rfl rfl rfl rfl rfl rfl rfl (by decide) (by decide) (by decide)
  refine Cl.def' (args' := [.ref n, .int i]) (fl := .ret (v)) D rfl (.inl rfl) (by walk_at "ux bind2") ?_
  refine ⟨_, Ex.stop (Es.ret (Ev.item (Ev.local ?_) (Ev.local ?_) hx h0 hf hg)) (by walk_at "ux flow")⟩
  · walk_at "ux at"
  · walk_at "ux at"
set_option maxRecDepth 100000 in
theorem setitem_ok (g : GOK G) {n : Nat} {i : Int} {xs : List PV} {v : PV} (hx : H[n]? = some xs) (h0 : 0 ≤ i) (h1 : i < xs.length) (hf : i < 2 ^ 63) : Cl G (d + 1) (.ref 120) [.ref n, .int i, v] H .none (H.set n (xs.set i.toNat v)) := by
  have D := DefOK.of g (f := 120) (ps := ["a", "b", "c"]) (rest := []) rfl rfl rfl rfl rfl rfl rfl rfl rfl rfl (by decide) (by decide) (by decide)
  refine Cl.def' (args' := [.ref n, .int i, v]) (fl := .next) D rfl (.inr ⟨rfl, rfl⟩) (by walk_at "ux bind3") ?_
  refine ⟨_, Ex.cons (Es.setitem (Ev.local (v := v) ?_) (Ev.local (v := .ref n) ?_) (Ev.local (v := .int i) ?_) hx h0 h1 hf) Ex.nil⟩
  · walk_at "ux at"
  · walk_at "ux at"
  · walk_at "ux at"
set_option maxRecDepth 100000 in
theorem delitem_ok (g : GOK G) {n : Nat} {i : Int} {xs : List PV} (hx : H[n]? = some xs) (h0 : 0 ≤ i) (h1 : i < xs.length) (hz : xs.length ≤ 1000) : Cl G (d + 1) (.ref 106) [.ref n, .int i] H .none (H.set n (xs.eraseIdx i.toNat)) := by
  have D := DefOK.of g (f := 106) (ps := ["a", "b"]) (rest := []) rfl rfl rfl rfl rfl rfl rfl rfl rfl rfl (by decide) (by decide) (by decide)
  refine Cl.def' (args' := [.ref n, .int i]) (fl := .next) D rfl (.inr ⟨rfl, rfl⟩) (by walk_at "ux bind2") ?_
  refine ⟨_, Ex.cons (Es.delitem (Ev.local (v := .ref n) ?_) (Ev.local (v := .int i) ?_) hx h0 h1 hz) Ex.nil⟩
  · walk_at "ux at"
  · walk_at "ux at"
end

section
variable {G : Gd} {cs : Scope} {d : Nat} {m m₁ m₂ m' : Mem} {H H₁ H₂ H₃ H' : Hp} {pos : Pos}

theorem Tr.of {e : Expr} {b b' : Bool} (h : Tr G cs d m H e b H₁) (hb : b = b') : Tr G cs d m H e b' H₁ := hb ▸ h
theorem Ev.of {e : Expr} {v v' : PV} (h : Ev G cs d m H e v H₁) (hb : v = v') : Ev G cs d m H e v' H₁ := hb ▸ h

theorem binds_peek {K : Frag} {s : Shared} {fd : FuncData} {args : Args} {binds : List (Str × Value)} (X : K.In s.heap) (e : ∀ S, peek K S (bindArgs fd args) = some binds) : BindsTo s fd args binds :=
  fun M _ _ _ q => (Looks.of_peek (M := M) X (e _)).here q

/-- the search by halves: p says 'go left' -/
noncomputable def bisP (p : Nat → Bool) : Nat → Nat → Nat → Nat
  | 0, lo, _ => lo
  | k + 1, lo, hi => if lo < hi then (if p ((lo + hi) / 2) then bisP p k lo ((lo + hi) / 2) else bisP p k ((lo + hi) / 2 + 1) hi) else lo

noncomputable abbrev bM (n : Nat) (x : Int) (lo hi : Nat) (o : Option PV) : Mem := [some (.ref n), some (.int x), some (.int lo), some (.int hi), some .none, o, none, none]

theorem wh_bis {test : Expr} {body : List Stmt} {n : Nat} {x : Int} {p : Nat → Bool} {len : Nat} (ht : ∀ lo hi o, Tr G cs d (bM n x lo hi o) H test (decide (lo < hi)) H)
    (hb : ∀ (lo hi : Nat) o, lo < hi → hi ≤ len → Ex G cs d (bM n x lo hi o) H body .next (if p ((lo + hi) / 2) then bM n x lo ((lo + hi) / 2) (some (.int ((lo + hi) / 2 : Nat))) else bM n x ((lo + hi) / 2 + 1) hi (some (.int ((lo + hi) / 2 : Nat)))) H) :
    ∀ (k lo hi : Nat) o, hi - lo < k → hi ≤ len → ∃ q o', Wh G cs d test body k (bM n x lo hi o) H .next (bM n x (bisP p k lo hi) q o') H
  | 0, lo, hi, o, h, _ => absurd h (Nat.not_lt_zero _)
  | k + 1, lo, hi, o, h, hl => by
    by_cases hlt : lo < hi
    · have ht' := (ht lo hi o).of (decide_eq_true hlt)
      have hb' := hb lo hi o hlt hl
      simp only [bisP, if_pos hlt]
      by_cases hp : p ((lo + hi) / 2) = true
      · rw [if_pos hp] at hb' ⊢
        obtain ⟨q, o', w⟩ := wh_bis ht hb k lo ((lo + hi) / 2) _ (by (first | lia | omega)) (by (first | lia | omega))
        exact ⟨q, o', .step ht' hb' w⟩
      · rw [if_neg hp] at hb' ⊢
        obtain ⟨q, o', w⟩ := wh_bis ht hb k ((lo + hi) / 2 + 1) hi _ (by (first | lia | omega)) hl
        exact ⟨q, o', .step ht' hb' w⟩
    · simp only [bisP, if_neg hlt]
      exact ⟨hi, o, .done ((ht lo hi o).of (decide_eq_false hlt))⟩

noncomputable def bisR (a : List Int) (x : Int) : Nat := bisP (fun i => decide (x < a.getD i 0)) (a.length + 1) 0 a.length
noncomputable def bisL (a : List Int) (x : Int) : Nat := bisP (fun i => !decide (a.getD i 0 < x)) (a.length + 1) 0 a.length

noncomputable abbrev bps : List Str := ["a", "x", "lo", "hi", "key"]
noncomputable abbrev bre : List (Str × NameKind) := [("mid", .local), ("ValueError", .globalImplicit), ("len", .globalImplicit)]

theorem mid_fdiv (lo hi : Nat) : ((lo : Int) + (hi : Int)).fdiv 2 = ((lo + hi) / 2 : Nat) := by
  rw [Int.fdiv_eq_ediv_of_nonneg _ (by (first | lia | omega))]; (first | lia | omega)

theorem bisP_le {p : Nat → Bool} : ∀ (k lo hi len : Nat), lo ≤ len → hi ≤ len → bisP p k lo hi ≤ len
  | 0, lo, hi, len, h, _ => h
  | k + 1, lo, hi, len, h, h' => by
    unfold bisP
    split
    · split
      · exact bisP_le k _ _ len h (by (first | lia | omega))
      · exact bisP_le k _ _ len (by (first | lia | omega)) h'
    · exact h
theorem bisR_le {a : List Int} {x : Int} : bisR a x ≤ a.length := bisP_le _ _ _ _ (Nat.zero_le _) (Nat.le_refl _)
theorem bisL_le {a : List Int} {x : Int} : bisL a x ≤ a.length := bisP_le _ _ _ _ (Nat.zero_le _) (Nat.le_refl _)
noncomputable def insAt (ns : List Int) (i : Nat) (x : Int) : List Int := ns.take i ++ x :: ns.drop i
set_option maxRecDepth 100000 in
theorem bisR_body (g : GOK G) {n : Nat} {x : Int} {ns : List Int} (hx : H[n]? = some (ns.map PV.int)) (hz : ns.length < 1000) {fd : FuncData} {oc : Value} {od : Option Addr} {sl : Array (Option Value)} (hl : (KH G.w.params).lookup 53 = some ⟨oc, od, .func fd, sl⟩) :
    ∃ body, DefOK G 53 fd bps bre body ∧ ∃ m', Ex G fd.scope d [some (.ref n), some (.int x), some (.int 0), some .none, some .none, none, none, none] H body (.ret (.int (bisR ns x))) m' H := by
  have hl' := hl
  cases hl'
  have hlen : G.mg "len" = none := mg_none_of g.X G.g rfl
  refine ⟨_, DefOK.of g hl rfl rfl rfl rfl rfl rfl rfl rfl rfl (by decide) (by decide) (by decide), ?_⟩
  refine ⟨_, Ex.cons (Es.if (b := false) ((Tr.cmp (Ev.local (v := .int 0) (by walk_at "ux at")) Ev.const_int op_lt).of rfl) Ex.nil) (Ex.cons (Es.if (b := true) (Tr.cmp (Ev.local (by walk_at "ux at")) Ev.const_none (op_is_none (.inl rfl))) (Ex.cons (Es.assign (Ev.callB (Ev.builtin hlen PySem.boot_len (by walk_at "ux mem")) (Evs.cons (Ev.local (by walk_at "ux at")) Evs.nil) (cl_len hx (by rw [List.length_map]; (first | lia | omega)))) (by rw [List.length_map]; walk_at "ux put")) Ex.nil)) (Ex.cons (Es.if (b := true) (Tr.cmp (Ev.local (by walk_at "ux at")) Ev.const_none (op_is_none (.inl rfl))) (Ex.cons (Es.while (wh_bis (p := fun i => decide (x < ns.getD i 0)) (len := ns.length) ?ht ?hb (ns.length + 1) 0 ns.length none ?h1 ?h2).choose_spec.choose_spec) Ex.nil)) (Ex.stop (Es.ret (Ev.local (by walk_at "ux at"))) (by walk_at "ux flow"))))⟩
  case h1 => (first | lia | omega)
  case h2 => (first | lia | omega)
  case ht =>
    intro lo hi o
    exact (Tr.cmp (Ev.local (by walk_at "ux at")) (Ev.local (by walk_at "ux at")) op_lt).of (by simp)
  case hb =>
    intro lo hi o hlt hle
    have hm : (lo + hi) / 2 < ns.length := by (first | lia | omega)
    have hg : (ns.map PV.int)[(((lo + hi) / 2 : Nat) : Int).toNat]? = some (.int (ns.getD ((lo + hi) / 2) 0)) := by
      rw [List.getElem?_map, Int.toNat_natCast, List.getElem?_eq_getElem hm, List.getD_eq_getElem?_getD, List.getElem?_eq_getElem hm]; rfl
    refine Ex.cons (m₁ := bM n x lo hi (some (.int ((lo + hi) / 2 : Nat)))) (Es.assign (v := .int ((lo + hi) / 2 : Nat)) ((Ev.bin (Ev.bin (Ev.local (v := .int lo) (by walk_at "ux at")) (Ev.local (v := .int hi) (by walk_at "ux at")) op_add) Ev.const_int (op_floordiv (by decide) (by decide))).of (by rw [mid_fdiv])) (by walk_at "ux put")) ?_
    refine Ex.cons (Es.if (b := decide (x < ns.getD ((lo + hi) / 2) 0)) (Tr.cmp (Ev.local (v := .int x) (by walk_at "ux at")) (Ev.item (Ev.local (v := .ref n) (by walk_at "ux at")) (Ev.local (v := .int ((lo + hi) / 2 : Nat)) (by walk_at "ux at")) hx (by (first | lia | omega)) (by (first | lia | omega)) hg) op_lt) ?_) Ex.nil
    by_cases hp : x < ns.getD ((lo + hi) / 2) 0
    · rw [if_pos (by simpa using hp), if_pos (by simpa using hp)]
      exact Ex.cons (Es.assign (Ev.local (v := .int ((lo + hi) / 2 : Nat)) (by walk_at "ux at")) (by walk_at "ux put")) Ex.nil
    · rw [if_neg (by simpa using hp), if_neg (by simpa using hp)]
      exact Ex.cons (Es.assign ((Ev.bin (Ev.local (v := .int ((lo + hi) / 2 : Nat)) (by walk_at "ux at")) Ev.const_int op_add).of (v' := .int ((lo + hi) / 2 + 1 : Nat)) rfl) (by walk_at "ux put")) Ex.nil
set_option maxRecDepth 100000 in
theorem bisR_ok (g : GOK G) {n : Nat} {x : Int} {ns : List Int} (hx : H[n]? = some (ns.map PV.int)) (hz : ns.length < 1000) : Cl G (d + 1) (.ref 53) [.ref n, .int x] H (.int (bisR ns x)) H := by
  obtain ⟨body, D, hb⟩ := bisR_body (d := d) (x := x) g hx hz rfl
  refine Cl.def' (args' := [.ref n, .int x, .int 0, .none, .none]) (fl := .ret (.int (bisR ns x))) D rfl (.inl rfl) ?_ hb
  intro ρ s cas hk hc
  cases hc with | cons h1 h => cases h with | cons h2 h => 
  cases h
  exact ⟨[_, _, .int 0 _, .none, .none], binds_peek (K := KH G.w.params) (fun a o e => hk _ _ (g.X a o e)) (fun S => rfl), .cons h1 (.cons h2 (.cons (.int _ _) (.cons .none (.cons .none .nil))))⟩
set_option maxRecDepth 100000 in
theorem bisR_ok4 (g : GOK G) {n : Nat} {x : Int} {ns : List Int} (hx : H[n]? = some (ns.map PV.int)) (hz : ns.length < 1000) : Cl G (d + 1) (.ref 53) [.ref n, .int x, .int 0, .none] H (.int (bisR ns x)) H := by
  obtain ⟨body, D, hb⟩ := bisR_body (d := d) (x := x) g hx hz rfl
  refine Cl.def' (args' := [.ref n, .int x, .int 0, .none, .none]) (fl := .ret (.int (bisR ns x))) D rfl (.inl rfl) ?_ hb
  intro ρ s cas hk hc
  cases hc with | cons h1 h => cases h with | cons h2 h => cases h with | cons h3 h => cases h with | cons h4 h =>
  cases h
  exact ⟨[_, _, _, _, .none], binds_peek (K := KH G.w.params) (fun a o e => hk _ _ (g.X a o e)) (fun S => rfl), .cons h1 (.cons h2 (.cons h3 (.cons h4 (.cons .none .nil))))⟩
set_option maxRecDepth 100000 in
theorem bisL_body (g : GOK G) {n : Nat} {x : Int} {ns : List Int} (hx : H[n]? = some (ns.map PV.int)) (hz : ns.length < 1000) {fd : FuncData} {oc : Value} {od : Option Addr} {sl : Array (Option Value)} (hl : (KH G.w.params).lookup 71 = some ⟨oc, od, .func fd, sl⟩) :
    ∃ body, DefOK G 71 fd bps bre body ∧ ∃ m', Ex G fd.scope d [some (.ref n), some (.int x), some (.int 0), some .none, some .none, none, none, none] H body (.ret (.int (bisL ns x))) m' H := by
  have hl' := hl
  cases hl'
  have hlen : G.mg "len" = none := mg_none_of g.X G.g rfl
  refine ⟨_, DefOK.of g hl rfl rfl rfl rfl rfl rfl rfl rfl rfl (by decide) (by decide) (by decide), ?_⟩
  refine ⟨_, Ex.cons (Es.if (b := false) ((Tr.cmp (Ev.local (v := .int 0) (by walk_at "ux at")) Ev.const_int op_lt).of rfl) Ex.nil) (Ex.cons (Es.if (b := true) (Tr.cmp (Ev.local (by walk_at "ux at")) Ev.const_none (op_is_none (.inl rfl))) (Ex.cons (Es.assign (Ev.callB (Ev.builtin hlen PySem.boot_len (by walk_at "ux mem")) (Evs.cons (Ev.local (by walk_at "ux at")) Evs.nil) (cl_len hx (by rw [List.length_map]; (first | lia | omega)))) (by rw [List.length_map]; walk_at "ux put")) Ex.nil)) (Ex.cons (Es.if (b := true) (Tr.cmp (Ev.local (by walk_at "ux at")) Ev.const_none (op_is_none (.inl rfl))) (Ex.cons (Es.while (wh_bis (p := fun i => !decide (ns.getD i 0 < x)) (len := ns.length) ?ht ?hb (ns.length + 1) 0 ns.length none ?h1 ?h2).choose_spec.choose_spec) Ex.nil)) (Ex.stop (Es.ret (Ev.local (by walk_at "ux at"))) (by walk_at "ux flow"))))⟩
  case h1 => (first | lia | omega)
  case h2 => (first | lia | omega)
  case ht =>
    intro lo hi o
    exact (Tr.cmp (Ev.local (by walk_at "ux at")) (Ev.local (by walk_at "ux at")) op_lt).of (by simp)
  case hb =>
    intro lo hi o hlt hle
    have hm : (lo + hi) / 2 < ns.length := by (first | lia | omega)
    have hg : (ns.map PV.int)[(((lo + hi) / 2 : Nat) : Int).toNat]? = some (.int (ns.getD ((lo + hi) / 2) 0)) := by
      rw [List.getElem?_map, Int.toNat_natCast, List.getElem?_eq_getElem hm, List.getD_eq_getElem?_getD, List.getElem?_eq_getElem hm]; rfl
    refine Ex.cons (m₁ := bM n x lo hi (some (.int ((lo + hi) / 2 : Nat)))) (Es.assign (v := .int ((lo + hi) / 2 : Nat)) ((Ev.bin (Ev.bin (Ev.local (v := .int lo) (by walk_at "ux at")) (Ev.local (v := .int hi) (by walk_at "ux at")) op_add) Ev.const_int (op_floordiv (by decide) (by decide))).of (by rw [mid_fdiv])) (by walk_at "ux put")) ?_
    refine Ex.cons (Es.if (b := decide (ns.getD ((lo + hi) / 2) 0 < x)) (Tr.cmp (Ev.item (Ev.local (v := .ref n) (by walk_at "ux at")) (Ev.local (v := .int ((lo + hi) / 2 : Nat)) (by walk_at "ux at")) hx (by (first | lia | omega)) (by (first | lia | omega)) hg) (Ev.local (v := .int x) (by walk_at "ux at")) op_lt) ?_) Ex.nil
    by_cases hp : ns.getD ((lo + hi) / 2) 0 < x
    · rw [if_pos (by simpa using hp), if_neg (by simpa using hp)]
      exact Ex.cons (Es.assign ((Ev.bin (Ev.local (v := .int ((lo + hi) / 2 : Nat)) (by walk_at "ux at")) Ev.const_int op_add).of (v' := .int ((lo + hi) / 2 + 1 : Nat)) rfl) (by walk_at "ux put")) Ex.nil
    · rw [if_neg (by simpa using hp), if_pos (by simpa using hp)]
      exact Ex.cons (Es.assign (Ev.local (v := .int ((lo + hi) / 2 : Nat)) (by walk_at "ux at")) (by walk_at "ux put")) Ex.nil
set_option maxRecDepth 100000 in
theorem bisL_ok (g : GOK G) {n : Nat} {x : Int} {ns : List Int} (hx : H[n]? = some (ns.map PV.int)) (hz : ns.length < 1000) : Cl G (d + 1) (.ref 71) [.ref n, .int x] H (.int (bisL ns x)) H := by
  obtain ⟨body, D, hb⟩ := bisL_body (d := d) (x := x) g hx hz rfl
  refine Cl.def' (args' := [.ref n, .int x, .int 0, .none, .none]) (fl := .ret (.int (bisL ns x))) D rfl (.inl rfl) ?_ hb
  intro ρ s cas hk hc
  cases hc with | cons h1 h => cases h with | cons h2 h => 
  cases h
  exact ⟨[_, _, .int 0 _, .none, .none], binds_peek (K := KH G.w.params) (fun a o e => hk _ _ (g.X a o e)) (fun S => rfl), .cons h1 (.cons h2 (.cons (.int _ _) (.cons .none (.cons .none .nil))))⟩
set_option maxRecDepth 100000 in
theorem bisL_ok4 (g : GOK G) {n : Nat} {x : Int} {ns : List Int} (hx : H[n]? = some (ns.map PV.int)) (hz : ns.length < 1000) : Cl G (d + 1) (.ref 71) [.ref n, .int x, .int 0, .none] H (.int (bisL ns x)) H := by
  obtain ⟨body, D, hb⟩ := bisL_body (d := d) (x := x) g hx hz rfl
  refine Cl.def' (args' := [.ref n, .int x, .int 0, .none, .none]) (fl := .ret (.int (bisL ns x))) D rfl (.inl rfl) ?_ hb
  intro ρ s cas hk hc
  cases hc with | cons h1 h => cases h with | cons h2 h => cases h with | cons h3 h => cases h with | cons h4 h =>
  cases h
  exact ⟨[_, _, _, _, .none], binds_peek (K := KH G.w.params) (fun a o e => hk _ _ (g.X a o e)) (fun S => rfl), .cons h1 (.cons h2 (.cons h3 (.cons h4 (.cons .none .nil))))⟩
set_option maxRecDepth 100000 in
theorem insR_ok (g : GOK G) {n : Nat} {x : Int} {ns : List Int} (hx : H[n]? = some (ns.map PV.int)) (hz : ns.length < 1000) : Cl G (d + 2) (.ref 44) [.ref n, .int x] H .none (H.set n ((insAt ns (bisR ns x) x).map PV.int)) := by
  have D := DefOK.of g (f := 44) (ps := bps) (rest := [("bisect_right", .globalImplicit)]) rfl rfl rfl rfl rfl rfl rfl rfl rfl rfl (by decide) (by decide) (by decide)
  have hb : G.mg "bisect_right" = some (.ref 53) := mg_of g.X G.g rfl
  have hle : bisR ns x ≤ ns.length := bisR_le
  refine Cl.def' (args' := [.ref n, .int x, .int 0, .none, .none]) (fl := .next) D rfl (.inr ⟨rfl, rfl⟩) ?_ ?_
  · intro ρ s cas hk hc
    cases hc with | cons h1 h => cases h with | cons h2 h => 
    cases h
    exact ⟨[_, _, .int 0 _, .none, .none], binds_peek (K := KH G.w.params) (fun a o e => hk _ _ (g.X a o e)) (fun S => rfl), .cons h1 (.cons h2 (.cons (.int _ _) (.cons .none (.cons .none .nil))))⟩
  · have e1 : (insAt ns (bisR ns x) x).map PV.int = (ns.map PV.int).take ((bisR ns x : Nat) : Int).toNat ++ .int x :: (ns.map PV.int).drop ((bisR ns x : Nat) : Int).toNat := by simp [insAt]
    rw [e1]
    refine ⟨_, Ex.cons (Es.if (b := true) (Tr.cmp (Ev.local (by walk_at "ux at")) Ev.const_none (op_is_none (.inl rfl))) (Ex.cons (Es.assign (Ev.callF (Ev.global hb (by walk_at "ux mem")) (g.X 53 _ rfl) rfl (Evs.cons (Ev.local (v := .ref n) (by walk_at "ux at")) (Evs.cons (Ev.local (v := .int x) (by walk_at "ux at")) (Evs.cons (Ev.local (v := .int 0) (by walk_at "ux at")) (Evs.cons (Ev.local (v := .none) (by walk_at "ux at")) Evs.nil)))) (bisR_ok4 g hx hz)) (by walk_at "ux put")) Ex.nil)) (Ex.cons (Es.expr (Ev.meth (Ev.local (v := .ref n) (by walk_at "ux at")) hx PySem.F.slot_list_insert rfl (Evs.cons (Ev.local (v := .int (bisR ns x)) (by walk_at "ux at")) (Evs.cons (Ev.local (v := .int x) (by walk_at "ux at")) Evs.nil)) (cl_insert hx (by (first | lia | omega)) (by rw [List.length_map]; (first | lia | omega)) (by rw [List.length_map]; (first | lia | omega))) (by rfl) _ (fun env => rfl))) Ex.nil)⟩
set_option maxRecDepth 100000 in
theorem insL_ok (g : GOK G) {n : Nat} {x : Int} {ns : List Int} (hx : H[n]? = some (ns.map PV.int)) (hz : ns.length < 1000) : Cl G (d + 2) (.ref 62) [.ref n, .int x] H .none (H.set n ((insAt ns (bisL ns x) x).map PV.int)) := by
  have D := DefOK.of g (f := 62) (ps := bps) (rest := [("bisect_left", .globalImplicit)]) rfl rfl rfl rfl rfl rfl rfl rfl rfl rfl (by decide) (by decide) (by decide)
  have hb : G.mg "bisect_left" = some (.ref 71) := mg_of g.X G.g rfl
  have hle : bisL ns x ≤ ns.length := bisL_le
  refine Cl.def' (args' := [.ref n, .int x, .int 0, .none, .none]) (fl := .next) D rfl (.inr ⟨rfl, rfl⟩) ?_ ?_
  · intro ρ s cas hk hc
    cases hc with | cons h1 h => cases h with | cons h2 h => 
    cases h
    exact ⟨[_, _, .int 0 _, .none, .none], binds_peek (K := KH G.w.params) (fun a o e => hk _ _ (g.X a o e)) (fun S => rfl), .cons h1 (.cons h2 (.cons (.int _ _) (.cons .none (.cons .none .nil))))⟩
  · have e1 : (insAt ns (bisL ns x) x).map PV.int = (ns.map PV.int).take ((bisL ns x : Nat) : Int).toNat ++ .int x :: (ns.map PV.int).drop ((bisL ns x : Nat) : Int).toNat := by simp [insAt]
    rw [e1]
    refine ⟨_, Ex.cons (Es.if (b := true) (Tr.cmp (Ev.local (by walk_at "ux at")) Ev.const_none (op_is_none (.inl rfl))) (Ex.cons (Es.assign (Ev.callF (Ev.global hb (by walk_at "ux mem")) (g.X 71 _ rfl) rfl (Evs.cons (Ev.local (v := .ref n) (by walk_at "ux at")) (Evs.cons (Ev.local (v := .int x) (by walk_at "ux at")) (Evs.cons (Ev.local (v := .int 0) (by walk_at "ux at")) (Evs.cons (Ev.local (v := .none) (by walk_at "ux at")) Evs.nil)))) (bisL_ok4 g hx hz)) (by walk_at "ux put")) Ex.nil)) (Ex.cons (Es.expr (Ev.meth (Ev.local (v := .ref n) (by walk_at "ux at")) hx PySem.F.slot_list_insert rfl (Evs.cons (Ev.local (v := .int (bisL ns x)) (by walk_at "ux at")) (Evs.cons (Ev.local (v := .int x) (by walk_at "ux at")) Evs.nil)) (cl_insert hx (by (first | lia | omega)) (by rw [List.length_map]; (first | lia | omega)) (by rw [List.length_map]; (first | lia | omega))) (by rfl) _ (fun env => rfl))) Ex.nil)⟩
end

section
variable {G : Gd} {cs : Scope} {d : Nat} {m m₁ m₂ m' : Mem} {H H₁ H₂ H₃ H' : Hp} {pos : Pos}

/-- a pair that is no tracked list -/
noncomputable def ItP.pair (a b : PV) : ItP := fun ρ cv s => ∃ T ca cb, cv = .ref T ∧ s.heap.IsTuple T #[ca, cb] ∧ CV ρ a ca ∧ CV ρ b cb

theorem IterOK.of_walksT {A : Around} {elts : List Expr} {tk : Nat} {pos : Pos} {ρ₀ : List Addr} {e it : Addr} {g0 : Nat} {ps : List PV} {Pt : Nat → Array Value → Prop} {St : Nat → Heap → Prop} {Mid : Nat → Addr → Heap → Prop} (hA : A.handled = none)
    {n : Nat} (hn : ps.length = n) (W : WalksT G.prog G.w A e [e, it] [e, it] n Pt St Mid)
    (hP : ∀ i vals p, Pt i vals → ps[i]? = some p → ∃ ca cb, vals = #[ca, cb] ∧ (∀ ρ, CV ρ (.int i) ca ∧ CV ρ p cb)) (hl : ∀ i h, St i h → (∃ o, h.get? e = some o) ∧ ∃ o, h.get? it = some o) :
    IterOK G A (.Tuple elts tk pos) ρ₀ e g0 (ps.mapIdx fun i p => ItP.pair (.int i) p) (fun _ => True) (fun i fp s => fp = [e, it] ∧ St i s.heap) where
  item := fun ρ H s i fp P Q E hpre R hok ⟨hfp, hst⟩ hget k => by
    subst hfp
    rw [List.getElem?_mapIdx] at hget
    obtain ⟨p, hp, rfl⟩ := Option.map_eq_some_iff.mp hget
    have hlt : i < n := hn ▸ (List.getElem?_eq_some_iff.mp hp).1
    refine W.item i s _ E hlt hst fun T vals h' tk hv hT ht hm hk => ?_
    refine ⟨_, rfl, W.go elts _ pos i T { s with heap := h', toks := tk } _ E hm fun h'' hst' hk' => ?_⟩
    obtain ⟨ca, cb, rfl, hc⟩ := hP i vals p hv hp
    obtain ⟨l1, l2⟩ := hl _ _ hst'
    have hTw := W.apart i T h' hm
    obtain ⟨oT, hoT, hTr⟩ := ht
    refine k { s with heap := h'', toks := tk } _ [e, it] ⟨rfl, hst'⟩ ⟨fun b o hb e => hk' b o hb (hk b o hb e), rfl, Nat.le_refl _, fun _ _ => rfl, fun h => h⟩ (fun b hb => ⟨.inl hb, ?_⟩) ⟨T, ca, cb, rfl, ⟨oT, hk' T oT hTw hoT, hTr⟩, hc ρ⟩
    rcases List.mem_cons.mp hb with rfl | hb
    · exact l1
    · rw [List.mem_singleton.mp hb]; exact l2
  done := fun ρ H s fp Q E hpre R hok ⟨hfp, hst⟩ k => by
    subst hfp
    rw [List.length_mapIdx, hn] at hst
    exact W.done s Q E hst fun h' tk hk => k _ ⟨fun b o hb e => hk b o hb e, rfl, Nat.le_refl _, fun _ _ => rfl, fun h => h⟩
  stable := fun i fp s s' ⟨hfp, hst⟩ hk _ _ => ⟨hfp, by subst hfp; exact W.frame _ _ _ hst fun b hb o e => hk b hb o e⟩
  self := fun s fp Q E ⟨_, hst⟩ hq => W.self 0 s Q E hst hq

theorem enumStr_at {elts : List Expr} {tk : Nat} {tpos : Pos} {A : Around} {s : Shared} {x : Str} {t : Tok} {Q : Value → Shared → Prop} {E : Value → Shared → Prop} (hA : A.handled = none)
    (k : ∀ h' St, (∀ A' ρ g0, A'.handled = none → IterOK G A' (.Tuple elts tk tpos) ρ (s.heap.objs.size + 1) g0 ((x.cps.toList.map fun c => PV.str ⟨#[c]⟩).mapIdx fun i p => ItP.pair (.int i) p) (fun _ => True) St) → St 0 [s.heap.objs.size + 1, s.heap.objs.size] { s with heap := h' } →
      (∀ i fp s', St i fp s' → fp = [s.heap.objs.size + 1, s.heap.objs.size]) → (∀ b o, s.heap.get? b = some o → h'.get? b = some o) → (∀ b ∈ [s.heap.objs.size + 1, s.heap.objs.size], ∃ o, h'.get? b = some o) → Q (.ref (s.heap.objs.size + 1)) { s with heap := h' }) :
    wpAny G.M A (call (.type "enumerate") [.str x t]) (fun xv s₁ => wpAny G.M A (pyIter xv) (fun it s₂ => Q it s₂) E s₁) E s := by
  refine call_enumerate_str fun h' he hi hsz hkeep => ?_
  have hne : s.heap.objs.size + 1 ≠ s.heap.objs.size := Nat.succ_ne_self _
  have hP : ∀ (i : Nat) (vals : Array Value) (p : PV), (∃ t' v, (∃ c u, x.cps[i]? = some c ∧ v = Value.str ⟨#[c]⟩ u) ∧ vals = #[.int i t', v]) → (x.cps.toList.map fun c => PV.str ⟨#[c]⟩)[i]? = some p → ∃ ca cb, vals = #[ca, cb] ∧ (∀ ρ, CV ρ (.int i) ca ∧ CV ρ p cb) := by
    rintro i vals p ⟨t', v, ⟨c, u, hc, rfl⟩, rfl⟩ hp
    rw [List.getElem?_map] at hp
    obtain ⟨q, hq, rfl⟩ := Option.map_eq_some_iff.mp hp
    have : q = c := by
      rw [Array.getElem?_toList, hc] at hq
      exact (Option.some.inj hq).symm
    subst this
    exact ⟨_, _, rfl, fun ρ => ⟨.int _ _, .str _ _⟩⟩
  have fin : ∀ (St : Nat → Heap → Prop) (D : ∀ A' : Around, A'.handled = none → Draws G.prog G.w A' s.heap.objs.size [s.heap.objs.size] x.cps.size (fun i v => ∃ c u, x.cps[i]? = some c ∧ v = .str ⟨#[c]⟩ u) St), St 0 h' → wpAny G.M A (pyIter (.ref (s.heap.objs.size + 1))) (fun it s₂ => Q it s₂) E { s with heap := h' } := fun St D hst => by
    refine wpAny_pyIter_enum (s := { s with heap := h' }) he ?_
    have W := fun (A' : Around) (hA' : A'.handled = none) => WalksT.enumerateD (D A'.in1 hA') (s.heap.objs.size + 1) hne (by simpa using hne) (List.mem_singleton.mpr rfl)
    refine k h' _ (fun A' ρ g0 hA' => IterOK.of_walksT hA' (by simp) (W A' hA') hP fun i h ⟨⟨old, he⟩, hs⟩ => ⟨⟨_, he⟩, (D {} rfl).live _ _ hs⟩) ⟨rfl, ⟨.none, by simpa using he⟩, hst⟩ (fun i fp s' h => h.1) hkeep fun b hb => ?_
    rcases List.mem_cons.mp hb with rfl | hb
    · exact ⟨_, he⟩
    · rw [List.mem_singleton.mp hb]
      exact (D {} rfl).live _ _ hst
  cases ha : x.cps.all (· < 128)
  · exact fin _ (fun A' hA' => Draws.strWide hA' s.heap.objs.size x t) (by simpa [strIterType, ha] using hi)
  · exact fin _ (fun A' hA' => Draws.strAscii hA' s.heap.objs.size x t) (by simpa [strIterType, ha] using hi)

/-- enumerate over a tracked list -/
theorem ItbS.enumList {elts : List Expr} {tk : Nat} {tpos p : Pos} {e : Expr} {n : Nat} {xs : List PV} (h0 : G.mg "enumerate" = none) (hk : (("enumerate" : Str), NameKind.globalImplicit) ∈ cs.names) (h : Ev G cs d m H e (.ref n) H₁) (hx : H₁[n]? = some xs) (hp : plainE e = true := by rfl) :
    ItbS G cs d m H (.Tuple elts tk tpos) (.Call (.Name "enumerate" p) [e] [] pos) (xs.mapIdx fun i p => ItP.pair (.int i) p) (fun H => H[n]? = some xs) H₁ := fun env A ρ s Q E hE hA R k => by
  refine Call_ ?_ rfl
  refine (Ev.builtin (G := G) (d := d) (m := m) (H := H) (cs := cs) (x := "enumerate") h0 PyProof.Rows.boot_enumerate hk) env A ρ s _ E hE hA R fun ρ₁ s₁ cf S₁ R₁ hcf => ?_
  cases hcf
  refine callWith_type1 (spliced_more (h env A ρ₁ s₁ _ E hE hA R₁ fun ρ₂ s₂ cv S₂ R₂ hc => Calls.spliced_nil ?_) (starEach_plain hp)) (starEach_plain hp) rfl
  obtain ⟨_, rfl, e0⟩ := hc.refE
  rename_i a
  obtain ⟨vs, hl, hcv⟩ := (R₂.toRel0.at hx e0).isList
  refine call_enumerate_list hl fun h' he hi hsz hkeep => ?_
  have f1 := fresh_facts (Rel.trans S₁ R₁ S₂) R₂ (get?_size_none s₂.heap)
  have f2 := fresh_facts (Rel.trans S₁ R₁ S₂) R₂ (get?_size1_none s₂.heap)
  have haI : a ≠ s₂.heap.objs.size := fun q => f1.2.1 (q ▸ List.mem_of_getElem? e0)
  have haE : a ≠ s₂.heap.objs.size + 1 := fun q => f2.2.1 (q ▸ List.mem_of_getElem? e0)
  obtain ⟨R3, S3⟩ := R₂.of0 (R₂.toRel0.grow (h' := h') (tk := s₂.toks) hkeep)
  have hne : s₂.heap.objs.size + 1 ≠ s₂.heap.objs.size := Nat.succ_ne_self _
  refine wpAny_pyIter_enum (s := { s₂ with heap := h' }) he ?_
  have WW : ∀ us : List Value, WalksT G.prog G.w A _ _ _ _ _ _ _ := fun us => WalksT.enumerateD (Draws.list (prog := G.prog) (w := G.w) (A := A.in1) hA.1 s₂.heap.objs.size a haI us.toArray) (s₂.heap.objs.size + 1) hne (by simp; exact Ne.symm haE) (List.mem_cons_self ..)
  refine k ρ₂ _ (s₂.heap.objs.size + 1) [s₂.heap.objs.size + 1, s₂.heap.objs.size] (fun i fp s => fp = [s₂.heap.objs.size + 1, s₂.heap.objs.size] ∧ (∃ old, IsEnum s.heap (s₂.heap.objs.size + 1) s₂.heap.objs.size i old) ∧ s.heap.IsListIter s₂.heap.objs.size a i) (Rel.trans (Rel.trans S₁ R₁ S₂) R₂ S3) R3 (fun g0 => ?_) ⟨rfl, ⟨.none, by simpa using he⟩, hi⟩ (fun b hb => ?_) (fun fp' s₁ s₂ ⟨hf, ⟨old, hen⟩, o, ho, h1⟩ hk => ⟨hf, ⟨old, hk _ (by simp [hf]) _ hen⟩, o, hk _ (by simp [hf]) o ho, h1⟩) (fun i fp' s₁ h => h.1)
  · refine { item := fun ρ' H' s' i fp P Q' E' hpre R' hok ⟨hfp, hen, hit⟩ hget kk => ?_, done := fun ρ' H' s' fp Q' E' hpre R' hok ⟨hfp, hen, hit⟩ kk => ?_, stable := fun i fp s' s'' ⟨hfp, ⟨old, hen⟩, o, ho, h1⟩ hk _ _ => ⟨hfp, ⟨old, hk _ (by simp [hfp]) _ hen⟩, o, hk _ (by simp [hfp]) o ho, h1⟩, self := fun s' fp Q' E' ⟨_, ⟨old, hen⟩, _⟩ hq => wpAny_pyIter_enum hen hq }
    · subst hfp
      obtain ⟨us, hl', hc'⟩ := (R'.at hok (prefix_get hpre e0)).isList
      rw [List.getElem?_mapIdx] at hget
      obtain ⟨p, hp, rfl⟩ := Option.map_eq_some_iff.mp hget
      obtain ⟨u, hu, hpu⟩ := hc'.get hp
      have hlt : i < us.toArray.size := by
        have := (List.getElem?_eq_some_iff.mp hu).1
        simpa using this
      refine (WW us).item i s' _ E' hlt ⟨hen, hit, hl'⟩ fun T vals h'' tk hv hT ht hm hk => ?_
      refine ⟨_, rfl, (WW us).go elts _ tpos i T { s' with heap := h'', toks := tk } _ E' hm fun h3 hst' hk' => ?_⟩
      obtain ⟨t', x', hx', rfl⟩ := hv
      have : x' = u := by
        have hu' : us.toArray[i]? = some u := by simpa using hu
        rw [hu'] at hx'
        exact (Option.some.inj hx').symm
      subst this
      have hTw := (WW us).apart i T h'' hm
      obtain ⟨oT, hoT, hTr⟩ := ht
      obtain ⟨⟨old', hen'⟩, hit', hl''⟩ := hst'
      obtain ⟨oi, hoi, hir⟩ := id hit'
      refine kk { s' with heap := h3, toks := tk } _ [s₂.heap.objs.size + 1, s₂.heap.objs.size] ⟨rfl, ⟨old', hen'⟩, hit'⟩ ⟨fun b o hb e => hk' b o hb (hk b o hb e), rfl, Nat.le_refl _, fun _ _ => rfl, fun h => h⟩ (fun b hb => ⟨.inl hb, ?_⟩) ⟨T, _, _, rfl, ⟨oT, hk' T oT hTw hoT, hTr⟩, .int _ _, hpu⟩
      rcases List.mem_cons.mp hb with rfl | hb
      · exact ⟨_, hen'⟩
      · rw [List.mem_singleton.mp hb]; exact ⟨_, hoi⟩
    · subst hfp
      obtain ⟨us, hl', hc'⟩ := (R'.at hok (prefix_get hpre e0)).isList
      rw [List.length_mapIdx] at hen hit
      have hsz : us.toArray.size = xs.length := by simp [hc'.length]
      refine (WW us).done s' Q' E' ⟨by rw [hsz]; exact hen, by rw [hsz]; exact hit, hl'⟩ fun h3 tk hk => kk _ ⟨fun b o hb e => hk b o hb e, rfl, Nat.le_refl _, fun _ _ => rfl, fun h => h⟩
  · rcases List.mem_cons.mp hb with rfl | hb
    · exact ⟨f2.1, f2.2.1, f2.2.2.1, f2.2.2.2, _, he⟩
    · rw [List.mem_singleton.mp hb]
      obtain ⟨oi, hoi, _⟩ := hi
      exact ⟨f1.1, f1.2.1, f1.2.2.1, f1.2.2.2, _, hoi⟩

/-- two names filled from a pair -/
theorem asg_two {env : Env} {A : Around} {ρ : List Addr} {s : Shared} {x y : Str} {p1 p2 : Pos} {a b : PV} {ca cb : Value} {Q : Unit → Shared → Prop} {E : Value → Shared → Prop} (hE : EnvOK cs env) (R : Rel G env ρ m H s) (hx : Put a x .local cs.names m m₁) (hy : Put b y .local cs.names m₁ m') (ha : CV ρ a ca) (hb : CV ρ b cb)
    (k : ∀ s', Stp (Own env) ρ s ρ s' → Rel G env ρ m' H s' → Q () s') : wpAny G.M A (assignInOrder ((assignEach [.Name x p1, .Name y p2] env).map (·.2)) [ca, cb]) Q E s := by
  show wpAny _ A (do holding [cb] (PySem.assign (.Name x p1) env ca); do holding [] (PySem.assign (.Name y p2) env cb); pure ()) _ _ _
  refine wpAny_bind (wpAny_holding (wpAny_assign_Name (store_local hE R hx ha fun s₁ S₁ R₁ => ?_)))
  refine wpAny_bind (wpAny_holding (wpAny_assign_Name (store_local hE R₁ hy hb fun s₂ S₂ R₂ => wpAny_pure ?_)))
  exact k s₂ (Rel.trans S₁ R₁ S₂) R₂

theorem Rel.extBut {env : Env} {ρ : List Addr} {s : Shared} (R : Rel G env ρ m H s) {h' : Heap} (hx : Heap.ExtBut s.heap.objs.size s.heap h') : Rel G env ρ m H { s with heap := h' } ∧ Stp (Own env) ρ s ρ { s with heap := h' } :=
  R.of0 (R.toRel0.grow (tk := s.toks) fun b o e => hx b o (Nat.ne_of_lt (Heap.lt_size e)) e)

theorem Asg.pair {x y : Str} {p1 p2 : Pos} {tk : Nat} {a b : PV} (hx : Put a x .local cs.names m m₁) (hy : Put b y .local cs.names m₁ m') : Asg G cs d (.Tuple [.Name x p1, .Name y p2] tk pos) (.pair a b) m H m' := fun env A ρ s cv Q E hE hA R hc k => by
  obtain ⟨T, ca, cb, rfl, hT, ha, hb⟩ := hc
  refine wpAny_assign_Tuple hA.1 hT rfl rfl fun h' hx' => ?_
  obtain ⟨R1, S1⟩ := R.extBut hx'
  exact asg_two hE R1 hx hy ha hb fun s' S' R' => k s' (Rel.trans S1 R1 S') R'
end

section
variable {G : Gd} {cs : Scope} {d : Nat} {m m₁ m₂ m' : Mem} {H H₁ H₂ H₃ H' : Hp} {pos : Pos} {env : Env} {fp : List Addr} {s₀ s s' : Shared}

theorem EvT {e1 e2 : Expr} {k : Nat} {a b : PV} (h1 : Ev G cs d m H e1 a H) (h2 : Ev G cs d m H e2 b H) {A : Around} {ρ : List Addr} {Q : Value → Shared → Prop} {E : Value → Shared → Prop} (hE : EnvOK cs env) (hA : AOk d A) (R : Rel G env ρ m H s)
    (kk : ∀ ρ' s' cv, Stp (Own env) ρ s ρ' s' → Rel G env ρ' m H s' → ItP.pair a b ρ' cv s' → Q cv s') (p1 : plainE e1 = true := by rfl) (p2 : plainE e2 = true := by rfl) : wpAny G.M A (eval (.Tuple [e1, e2] k pos) env) Q E s :=
  Tuple_ ((Evs.cons h1 (Evs.cons h2 Evs.nil p2) p1) pos env A ρ s _ _ hE hA R fun ρ₁ s₁ cvs S₁ R₁ hcs => by
    cases hcs with
    | cons c1 h =>
    obtain ⟨_, _, rfl, c2, h⟩ := h.consE
    cases h
    obtain ⟨R2, S2⟩ := R₁.new { cls := .type "tuple", data := .seq #[_, _] } s₁.toks
    exact wpAny_newTuple (kk _ _ _ (Rel.trans S₁ R₁ S2) R2 ⟨_, _, _, rfl, ⟨_, Heap.get?_push_size _ rfl, rfl, _, rfl⟩, c1, c2⟩))

structure GJ (G : Gd) (env : Env) (m : Mem) (fp : List Addr) (s₀ s : Shared) : Prop where
  rel : Rel G env [] m [] s
  since : ∀ b o, b ∉ fp → s₀.heap.get? b = some o → s.heap.get? b = some o
  os : s.os = s₀.os
  gsz : s₀.gens.size ≤ s.gens.size
  gen : ∀ i, i < s₀.gens.size → s.gens[i]? = s₀.gens[i]?

theorem nil_of_rel {ρ' : List Addr} (R : Rel G env ρ' m [] s) : ρ' = [] := List.eq_nil_of_length_eq_zero R.len
theorem not_own (hc : env.cells = []) {b : Addr} (h : b ≠ env.locals) : ¬ Own env b := by
  rintro (q | ⟨x, q⟩)
  · exact h q
  · rw [hc] at q; cases q
theorem GJ.step (J : GJ G env m fp s₀ s) (hC : env.locals ∈ fp) (hc : env.cells = []) {ρ' : List Addr} (S : Stp (Own env) [] s ρ' s') (R : Rel G env ρ' m' [] s') : GJ G env m' fp s₀ s' := by
  have := nil_of_rel R
  subst this
  exact ⟨R, fun b o hb e => S.frame b o (not_own hc fun q => hb (q ▸ hC)) (List.not_mem_nil) (J.since b o hb e), S.os.trans J.os, Nat.le_trans J.gsz S.gsz, fun i hi => (S.gen i (Nat.lt_of_lt_of_le hi J.gsz)).trans (J.gen i hi)⟩
theorem GJ.chg (J : GJ G env m fp s₀ s) {fp' : List Addr} {g0 : Nat} (hg : s₀.gens.size ≤ g0) (c : Chg fp' g0 s s') (h : ∀ b ∈ fp', b ∈ fp ∧ ¬ Own env b ∧ G.h₀.get? b = none) : GJ G env m fp s₀ s' :=
  ⟨J.rel.chg c fun b hb => ⟨List.not_mem_nil, (h b hb).2⟩, fun b o hb e => c.heap b o (fun q => hb (h b q).1) (J.since b o hb e), c.os.trans J.os, Nat.le_trans J.gsz c.gsz, fun i hi => (c.gen i (Nat.lt_of_lt_of_le hi hg)).trans (J.gen i hi)⟩
theorem GJ.again (R : Rel G env [] m [] s) (hc : env.cells = []) (hl : ∀ o, s.heap.get? env.locals = some o → s'.heap.get? env.locals = some o) (hk : ∀ b o, G.h₀.get? b = some o → s'.heap.get? b = some o) (hb : ∀ x ∈ s'.gens, x.bare = true) : GJ G env m fp s' s' := by
  refine ⟨{ keep := hk, len := rfl, objs := fun i xs e => ?_, nodup := R.nodup, fresh := R.fresh, bare := hb, above := R.above, ns := ?_, cel := fun i x k v hi hk' hv => ?_, cok := fun x c hx => ?_, off := R.off }, fun _ _ _ e => e, rfl, Nat.le_refl _, fun _ _ => rfl⟩
  · simp at e
  · obtain ⟨mc, hn, hm⟩ := R.ns
    exact ⟨mc, hn.at' hl, hm⟩
  · obtain ⟨c, cv, h, _⟩ := R.cel i x k v hi hk' hv
    rw [hc] at h; cases h
  · rw [hc] at hx; cases hx

/-- what the caller sees at a yield -/
noncomputable def gY (G : Gd) (fp : List Addr) (yl : List (Int × Str)) : Protocol := fun n s₀ v s kap =>
  (∃ i q, yl[i]? = some q ∧ i + n + 1 = yl.length ∧ ∀ ρ, ItP.pair (.int q.1) (.str q.2) ρ v s) ∧ (∀ b o, b ∉ fp → s₀.heap.get? b = some o → s.heap.get? b = some o) ∧ s.os = s₀.os ∧ s₀.gens.size ≤ s.gens.size ∧ (∀ i, i < s₀.gens.size → s.gens[i]? = s₀.gens[i]?) ∧
    (∀ x ∈ s.gens, x.bare = true) ∧ (∀ b o, G.h₀.get? b = some o → s.heap.get? b = some o) ∧ (∀ b ∈ fp, ∃ o, s.heap.get? b = some o) ∧
    ∀ s'' : Shared, (∀ b ∈ fp, ∀ o, s.heap.get? b = some o → s''.heap.get? b = some o) → (∀ b o, G.h₀.get? b = some o → s''.heap.get? b = some o) → (∀ x ∈ s''.gens, x.bare = true) → s.gens.size ≤ s''.gens.size → kap (.send .none) s''
noncomputable def gR (fp : List Addr) : GenEnd := fun n s₀ r s => r = .ok (.ret .none) ∧ n = 0 ∧ (∀ b o, b ∉ fp → s₀.heap.get? b = some o → s.heap.get? b = some o) ∧ s.os = s₀.os ∧ s₀.gens.size ≤ s.gens.size ∧ (∀ i, i < s₀.gens.size → s.gens[i]? = s₀.gens[i]?) ∧ (∀ x ∈ s.gens, x.bare = true)

/-- the pairs that the text makes -/
noncomputable def toks : List Nat → Nat → Int → Bool → List (Int × Str)
  | [], _, pv, esc => if esc then [(pv, Str.ofString "\\")] else []
  | c :: r, p, _, esc => if esc then ((p : Int), Str.ofString "\\" ++ ⟨#[c]⟩) :: toks r (p + 1) p false
      else if ((⟨#[c]⟩ : Str).cps.toList == (Str.ofString "\\").cps.toList) = true then toks r (p + 1) p true else ((p : Int), ⟨#[c]⟩) :: toks r (p + 1) p false

noncomputable abbrev gm (x : Str) (pv : Int) (esc : Bool) (och : Option PV) : Mem := [some (.str x), some (.int pv), some (.bool esc), och, none]

section
variable {A : Around} {n : Nat} {c : Code} {fs : List Frame} {K : Flow → Sem Fin} {Hh : Value → Sem Fin} {gd : Bool → Bool} {lv : List Value → List Value} {yl : List (Int × Str)}

/-- a yield of a pair, then on -/
theorem seg_pair {e1 e2 : Expr} {kt : Nat} {p1 p2 p3 : Pos} {i : Nat} {a : Int} {b : Str} (hE : EnvOK cs env) (hcl : env.cells = []) (hC : env.locals ∈ fp) (hA : AOk d (A.over c fs)) (J : GJ G env m fp s₀ s) (halive : ∀ b ∈ fp, ∃ o, s.heap.get? b = some o) (hfp : ∀ b ∈ fp, b = env.locals ∨ ¬ Own env b)
    (h1 : Ev G cs d m [] e1 (.int a) []) (h2 : Ev G cs d m [] e2 (.str b) []) (hy : yl[i]? = some (a, b)) (hi : i + n + 1 = yl.length)
    (hfs : splitAtGen fs = none) (hgd : gd false = false) (hfg : fs.any Frame.guarded = false)
    (next : ∀ s'', (∀ b ∈ fp, b ≠ env.locals → ∀ o, s.heap.get? b = some o → s''.heap.get? b = some o) → s.gens.size ≤ s''.gens.size → GJ G env m fp s'' s'' → (∀ b ∈ fp, ∃ o, s''.heap.get? b = some o) → Seg G.M A (gR fp) (gY G fp yl) n s'' c (K .next) fs s'')
    (q1 : plainE e1 = true := by rfl) (q2 : plainE e2 = true := by rfl) : Seg G.M A (gR fp) (gY G fp yl) (n + 1) s₀ c ((exec (.Expr (.Yield (some (.Tuple [e1, e2] kt p1)) p2) p3) env).wrap K Hh gd lv) fs s := by
  refine seg_Expr_Yield hfs hgd hfg ?_ (by rw [hE.scope]; exact hE.co) (by unfold interactive; rw [hE.scope, hE.kind]; rfl)
  refine EvT h1 h2 hE hA J.rel (fun ρ' s' cv S R hp => ?_) q1 q2
  have e := nil_of_rel R
  subst e
  have J' := J.step hC hcl S R
  have al : ∀ b ∈ fp, ∀ o, s.heap.get? b = some o → ∃ o', s'.heap.get? b = some o' := fun b hb o e => by
    rcases hfp b hb with q | q
    · exact R.toFra.alive (.inl q)
    · exact ⟨o, S.frame b o q List.not_mem_nil e⟩
  intro kap hkap
  refine ⟨⟨i, (a, b), hy, hi, fun ρ => ?_⟩, J'.since, J'.os, J'.gsz, J'.gen, R.bare, R.keep, fun b hb => let ⟨o, ho⟩ := halive b hb; al b hb o ho, fun s'' w1 w2 w3 w4 => hkap _ _ ?_⟩
  · obtain ⟨T, ca, cb, h1, h2, h3, h4⟩ := hp
    refine ⟨T, ca, cb, h1, h2, ?_, ?_⟩
    · cases h3; exact .int _ _
    · cases h4; exact .str _ _
  · refine next s'' (fun b hb hne o e => w1 b hb o (S.frame b o ?_ List.not_mem_nil e)) (Nat.le_trans S.gsz w4) (GJ.again R hcl (fun o e => w1 _ hC o e) w2 w3) fun b hb => ?_
    · rcases hfp b hb with q | q
      · exact absurd q hne
      · exact q
    · obtain ⟨o, ho⟩ := halive b hb
      obtain ⟨o', ho'⟩ := al b hb o ho
      exact ⟨o', w1 b hb o' ho'⟩

/-- a statement without a yield -/
theorem seg_Es {st : Stmt} (hE : EnvOK cs env) (hcl : env.cells = []) (hC : env.locals ∈ fp) (hA : AOk d (A.over c fs)) (J : GJ G env m fp s₀ s) (halive : ∀ b ∈ fp, ∃ o, s.heap.get? b = some o) (hfp : ∀ b ∈ fp, b = env.locals ∨ ¬ Own env b) (h : Es G cs d m [] st .next m' [])
    (next : ∀ s', (∀ b ∈ fp, b ≠ env.locals → ∀ o, s.heap.get? b = some o → s'.heap.get? b = some o) → s.gens.size ≤ s'.gens.size → GJ G env m' fp s₀ s' → (∀ b ∈ fp, ∃ o, s'.heap.get? b = some o) → Seg G.M A (gR fp) (gY G fp yl) n s₀ c (K .next) fs s') : Seg G.M A (gR fp) (gY G fp yl) n s₀ c ((exec st env).wrap K Hh gd lv) fs s := by
  refine seg_wrap (h env _ [] s _ _ hE hA J.rel fun ρ' s' cf S R hcf => ?_)
  cases hcf
  have e := nil_of_rel R
  subst e
  refine next s' (fun b hb hne o e => S.frame b o ?_ List.not_mem_nil e) S.gsz (J.step hC hcl S R) fun b hb => ?_
  · rcases hfp b hb with q | q
    · exact absurd q hne
    · exact q
  · obtain ⟨o, ho⟩ := halive b hb
    rcases hfp b hb with q | q
    · exact R.toFra.alive (.inl q)
    · exact ⟨o, S.frame b o q List.not_mem_nil ho⟩

theorem seg_If {test : Expr} {body orelse : List Stmt} {b : Bool} (hE : EnvOK cs env) (hcl : env.cells = []) (hC : env.locals ∈ fp) (hA : AOk d (A.over c fs)) (J : GJ G env m fp s₀ s) (halive : ∀ b ∈ fp, ∃ o, s.heap.get? b = some o) (hfp : ∀ b ∈ fp, b = env.locals ∨ ¬ Own env b) (h : Tr G cs d m [] test b [])
    (next : ∀ s', (∀ b ∈ fp, b ≠ env.locals → ∀ o, s.heap.get? b = some o → s'.heap.get? b = some o) → s.gens.size ≤ s'.gens.size → GJ G env m fp s₀ s' → (∀ b ∈ fp, ∃ o, s'.heap.get? b = some o) → Seg G.M A (gR fp) (gY G fp yl) n s₀ c ((execs (if b then body else orelse) env).wrap K Hh gd lv) fs s') : Seg G.M A (gR fp) (gY G fp yl) n s₀ c ((exec (.If test body orelse pos) env).wrap K Hh gd lv) fs s := by
  rw [exec_If]
  refine seg_bind_wrap (wpAny_standAt ?_)
  refine seg_bind_wrap (h env _ [] s _ _ hE hA J.rel fun ρ' s' t S R ht => ?_)
  subst ht
  have e := nil_of_rel R
  subst e
  have := next s' (fun b hb hne o e => S.frame b o (by
    rcases hfp b hb with q | q
    · exact absurd q hne
    · exact q) List.not_mem_nil e) S.gsz (J.step hC hcl S R) fun b hb => by
      obtain ⟨o, ho⟩ := halive b hb
      rcases hfp b hb with q | q
      · exact R.toFra.alive (.inl q)
      · exact ⟨o, S.frame b o q List.not_mem_nil ho⟩
  cases t <;> exact this

noncomputable def emitE (p : Nat) (c : Nat) (esc : Bool) : List (Int × Str) := if esc then [((p : Int), Str.ofString "\\" ++ ⟨#[c]⟩)] else if ((⟨#[c]⟩ : Str).cps.toList == (Str.ofString "\\").cps.toList) = true then [] else [((p : Int), ⟨#[c]⟩)]
noncomputable def escE (c : Nat) (esc : Bool) : Bool := if esc then false else ((⟨#[c]⟩ : Str).cps.toList == (Str.ofString "\\").cps.toList)
noncomputable def escL : List Nat → Bool → Bool
  | [], e => e
  | c :: r, e => escL r (escE c e)
theorem toks_cons (c : Nat) (r : List Nat) (p : Nat) (pv : Int) (esc : Bool) : toks (c :: r) p pv esc = emitE p c esc ++ toks r (p + 1) p (escE c esc) := by
  cases esc
  · simp only [toks, emitE, escE, Bool.false_eq_true, if_false]
    split
    · rename_i h; rw [h]; rfl
    · rename_i h; rw [Bool.not_eq_true] at h; rw [h]; rfl
  · rfl

noncomputable def stab (env : Env) (fp : List Addr) (s s' : Shared) : Prop := (∀ b ∈ fp, b ≠ env.locals → ∀ o, s.heap.get? b = some o → s'.heap.get? b = some o) ∧ s.gens.size ≤ s'.gens.size
theorem stab.refl : stab env fp s s := ⟨fun _ _ _ _ e => e, Nat.le_refl _⟩
theorem stab.trans {s'' : Shared} (a : stab env fp s s') (b : stab env fp s' s'') : stab env fp s s'' := ⟨fun x hx hne o e => b.1 x hx hne o (a.1 x hx hne o e), Nat.le_trans a.2 b.2⟩

noncomputable def BodyOK (G : Gd) (env : Env) (A : Around) (d : Nat) (fp : List Addr) (yl : List (Int × Str)) (x : Str) (body : List Stmt) : Prop :=
  ∀ (p ch : Nat) (esc : Bool) (T pre : List (Int × Str)) (s₀ s : Shared) (c : Code) (fs : List Frame) (K : Flow → Sem Fin) (Hh : Value → Sem Fin) (gd : Bool → Bool) (lv : List Value → List Value), yl = pre ++ (emitE p ch esc ++ T) → GJ G env (gm x p esc (some (.str ⟨#[ch]⟩))) fp s₀ s → (∀ b ∈ fp, ∃ o, s.heap.get? b = some o) →
    AOk d (A.over c fs) → splitAtGen fs = none → fs.any Frame.guarded = false → gd false = false →
    (∀ s₀' s', stab env fp s s' → GJ G env (gm x p (escE ch esc) (some (.str ⟨#[ch]⟩))) fp s₀' s' → (∀ b ∈ fp, ∃ o, s'.heap.get? b = some o) → Seg G.M A (gR fp) (gY G fp yl) T.length s₀' c (K .next) fs s') →
    Seg G.M A (gR fp) (gY G fp yl) (emitE p ch esc ++ T).length s₀ c ((execs body env).wrap K Hh gd lv) fs s

theorem seg_escLoop {x : Str} {target : Expr} {body : List Stmt} {I it : Addr} {St : Nat → List Addr → Shared → Prop} {k : Result → Sem Fin} {p₀ : Pos} {c₀ : Code} {yl : List (Int × Str)} {l₀ : List Value} {A : Around}
    (hE : EnvOK cs env) (hcl : env.cells = []) (hfpe : fp = [env.locals, I, it]) (hfp : ∀ b ∈ [I, it], b ≠ env.locals ∧ G.h₀.get? b = none)
    (hA : AOk d (A.over (.forLoop target (.ref I) body [] env) [.ret k none false l₀ c₀ p₀ []]))
    (W : ∀ A' ρ g0, A'.handled = none → IterOK G A' target ρ I g0 ((x.cps.toList.map fun c => PV.str ⟨#[c]⟩).mapIdx fun i p => ItP.pair (.int i) p) (fun _ => True) St) (hSt : ∀ i fp' s', St i fp' s' → fp' = [I, it])
    (hasg : ∀ (p ch : Nat) pv esc och, Asg G cs d target (ItP.pair (.int p) (.str ⟨#[ch]⟩)) (gm x pv esc och) [] (gm x p esc (some (.str ⟨#[ch]⟩)))) (hbody : BodyOK G env A d fp yl x body)
    (rest : ∀ pv och s₀ s, GJ G env (gm x pv false och) fp s₀ s → Seg G.M A (gR fp) (gY G fp yl) 0 s₀ c₀ (k (.ok .next)) [] s) :
    ∀ (l : List Nat) (p : Nat) (pv : Int) (esc : Bool) (och : Option PV) (pre : List (Int × Str)) (s₀ s : Shared), escL l esc = false → x.cps.toList.drop p = l → p ≤ x.cps.toList.length → yl = pre ++ toks l p pv esc → GJ G env (gm x pv esc och) fp s₀ s → (∀ b ∈ fp, ∃ o, s.heap.get? b = some o) → St p [I, it] s →
      Seg G.M A (gR fp) (gY G fp yl) (toks l p pv esc).length s₀ (.forLoop target (.ref I) body [] env) (G.M.den (.forLoop target (.ref I) body [] env)) [.ret k none false l₀ c₀ p₀ []] s := by
  have hC : env.locals ∈ fp := by rw [hfpe]; exact List.mem_cons_self ..
  have hIfp : ∀ b ∈ [I, it], b ∈ fp := fun b hb => by rw [hfpe]; exact List.mem_cons_of_mem _ hb
  have hown : ∀ b ∈ [I, it], b ∈ fp ∧ ¬ Own env b ∧ G.h₀.get? b = none := fun b hb => ⟨hIfp b hb, not_own hcl (hfp b hb).1, (hfp b hb).2⟩
  have hlen : ((x.cps.toList.map fun c => PV.str ⟨#[c]⟩).mapIdx fun i p => ItP.pair (.int i) p).length = x.cps.toList.length := by simp
  intro l
  induction l with
  | nil =>
    intro p pv esc och pre s₀ s hesc hd hp hyl J halive hst
    show Seg _ A _ _ _ s₀ _ ((forTurn target (.ref I) body [] env).onRaise (fun x => do noteFrame x env; theTreesLotGoes x)) _ s
    rw [Sem.onRaise_eq_wrap]
    simp only [forTurn]
    refine seg_bind_wrap (wpAny_standAt ?_)
    have hpe : p = x.cps.toList.length := Nat.le_antisymm hp (List.drop_eq_nil_iff.mp hd)
    refine seg_bind_wrap (wpAny_onRaise ((W _ [] s.gens.size hA.1).done [] [] s [I, it] _ _ (List.prefix_refl _) J.rel.toRel0 trivial (by rw [hlen, ← hpe]; exact hst) fun s' c => ?_))
    have J' := J.chg J.gsz c hown
    have he : esc = false := hesc
    subst he
    refine seg_again rfl ?_
    show Seg _ _ _ _ _ _ _ (leafOf (.ok .next)) _ _
    exact seg_leaf (.ok .next) (rest pv och s₀ s' J')
  | cons ch r ih =>
    intro p pv esc och pre s₀ s hesc hd hp hyl J halive hst
    show Seg _ A _ _ _ s₀ _ ((forTurn target (.ref I) body [] env).onRaise (fun x => do noteFrame x env; theTreesLotGoes x)) _ s
    rw [Sem.onRaise_eq_wrap]
    simp only [forTurn]
    refine seg_bind_wrap (wpAny_standAt ?_)
    have hget : x.cps.toList[p]? = some ch := by
      have := congrArg (·[0]?) hd
      simpa using this
    have hdrop : x.cps.toList.drop (p + 1) = r := by
      have := congrArg (List.drop 1) hd
      simpa [List.drop_drop, Nat.add_comm] using this
    have hi : ((x.cps.toList.map fun c => PV.str ⟨#[c]⟩).mapIdx fun i p => ItP.pair (.int i) p)[p]? = some (ItP.pair (.int p) (.str ⟨#[ch]⟩)) := by
      rw [List.getElem?_mapIdx, List.getElem?_map, hget]; rfl
    have hp1 : p + 1 ≤ x.cps.toList.length := (List.getElem?_eq_some_iff.mp hget).1
    refine seg_bind_wrap (wpAny_onRaise ?_)
    refine wpAny_mono ((W _ [] s.gens.size hA.1).item [] [] s p [I, it] _ (fun v s' => ∃ fp', St (p + 1) fp' s' ∧ Chg [I, it] s.gens.size s s' ∧ (∀ b ∈ fp', (b ∈ [I, it] ∨ s.heap.get? b = none) ∧ ∃ o, s'.heap.get? b = some o) ∧ ItP.pair (.int p) (.str ⟨#[ch]⟩) [] v s') (fun _ _ => False) (List.prefix_refl _) J.rel.toRel0 trivial hst hi fun s' cv fp' h1 h2 h3 h4 => ⟨fp', h1, h2, h3, h4⟩) (fun r s₂ hr => ?_) (fun _ _ h => h.elim)
    obtain ⟨v, rfl, hgo⟩ := hr
    refine seg_bind_wrap (wpAny_mono hgo (fun _ s' hq => ?_) fun _ _ h => h.elim)
    obtain ⟨fp', st', c, hlv, hP⟩ := hq
    · have hf := hSt _ _ _ st'
      subst hf
      have J' := J.chg J.gsz c hown
      refine seg_bind_wrap (hasg p ch pv esc och env _ [] s' v _ _ hE hA J'.rel hP fun s2 S2 R2 => ?_)
      have J2 := J'.step hC hcl S2 R2
      rw [Sem.bind_eq_wrap', Sem.wrap_wrap]
      have hst2 : St (p + 1) [I, it] s2 := (W _ [] s'.gens.size hA.1).stable p [I, it] s' s2 st' (fun b hb o e => S2.frame b o (hown b hb).2.1 List.not_mem_nil e) S2.gsz (fun i h1 h2 => absurd h2 (Nat.not_lt.mpr h1))
      have al2 : ∀ b ∈ fp, ∃ o, s2.heap.get? b = some o := fun b hb => by
        by_cases hbl : b = env.locals
        · exact R2.toFra.alive (.inl hbl)
        · have hb' : b ∈ [I, it] := by
            rw [hfpe] at hb
            rcases List.mem_cons.mp hb with q | q
            · exact absurd q hbl
            · exact q
          obtain ⟨o, ho⟩ := (hlv b hb').2
          exact ⟨o, S2.frame b o (hown b hb').2.1 List.not_mem_nil ho⟩
      rw [toks_cons]
      refine hbody p ch esc _ pre s₀ s2 _ _ _ _ _ _ (by rw [hyl, toks_cons]) J2 al2 hA rfl rfl rfl fun s₀' s3 hs J3 al3 => ?_
      refine seg_again rfl ?_
      refine ih (p + 1) p (escE ch esc) _ (pre ++ emitE p ch esc) s₀' s3 hesc hdrop hp1 (by rw [hyl, toks_cons, List.append_assoc]) J3 al3 ?_
      exact (W _ [] s2.gens.size hA.1).stable p [I, it] s2 s3 hst2 (fun b hb o e => hs.1 b (hIfp b hb) (hfp b hb).1 o e) hs.2 (fun i h1 h2 => absurd h2 (Nat.not_lt.mpr h1))

theorem aok_func {A : Around} {body : List Stmt} (h : AOk (d + 1) A) : AOk d (A.in1.over (.func body env) []) := by
  obtain ⟨h1, h2, h3⟩ := h
  refine ⟨h1, ?_, ?_⟩
  · show A.depth + 0 + 1 + d < _; (first | lia | omega)
  · show A.units + 1 + 0 + 3 + 8 * d + 90 < _; (first | lia | omega)
theorem aok_loop {A : Around} {body b2 : List Stmt} {target : Expr} {I : Addr} {k : Result → Sem Fin} {l : List Value} {p₀ : Pos} (h : AOk (d + 1) A) : AOk d (A.in1.over (.forLoop target (.ref I) body [] env) [.ret k none false l (.func b2 env) p₀ []]) := by
  obtain ⟨h1, h2, h3⟩ := h
  refine ⟨h1, ?_, ?_⟩
  · show A.depth + (1 + 0) + 0 + d < _; (first | lia | omega)
  · show A.units + 1 + (3 + 0) + 0 + 8 * d + 90 < _; (first | lia | omega)

theorem seg_For_esc {cs : Scope} {x : Str} {elts : List Expr} {tk : Nat} {tpos b1 b2 b3 : Pos} {body b2' : List Stmt} {A : Around} {K : Flow → Sem Fin} {Hh : Value → Sem Fin} {gd : Bool → Bool} {lv : List Value → List Value} (hE : EnvOK cs env) (hcl : env.cells = []) (hA : AOk (d + 1) A) (hg : gd false = false)
    (h0 : G.mg "enumerate" = none) (hk : (("enumerate" : Str), NameKind.globalImplicit) ∈ cs.names) (haddr : ∀ pv esc och, At (.str x) "addr" .local cs.names (gm x pv esc och))
    (hasg : ∀ (p ch : Nat) pv esc och, Asg G cs d (.Tuple elts tk tpos) (ItP.pair (.int p) (.str ⟨#[ch]⟩)) (gm x pv esc och) [] (gm x p esc (some (.str ⟨#[ch]⟩)))) (hbody : BodyOK G env A.in1 d [env.locals, s.heap.objs.size + 1, s.heap.objs.size] (toks x.cps.toList 0 0 false) x body)
    (J : GJ G env (gm x 0 false none) [env.locals, s.heap.objs.size + 1, s.heap.objs.size] s₀ s) (hesc : escL x.cps.toList false = false)
    (rest : ∀ pv och s₀ s', GJ G env (gm x pv false och) [env.locals, s.heap.objs.size + 1, s.heap.objs.size] s₀ s' → Seg G.M A.in1 (gR [env.locals, s.heap.objs.size + 1, s.heap.objs.size]) (gY G [env.locals, s.heap.objs.size + 1, s.heap.objs.size] (toks x.cps.toList 0 0 false)) 0 s₀ (.func b2' env) (K .next) [] s') :
    Seg G.M A.in1 (gR [env.locals, s.heap.objs.size + 1, s.heap.objs.size]) (gY G [env.locals, s.heap.objs.size + 1, s.heap.objs.size] (toks x.cps.toList 0 0 false)) (toks x.cps.toList 0 0 false).length s₀ (.func b2' env) ((exec (.For (.Tuple elts tk tpos) (.Call (.Name "enumerate" b1) [.Name "addr" b2] [] b3) body [] pos) env).wrap K Hh gd lv) [] s := by
  have R := J.rel
  have hC : env.locals < s.heap.objs.size := by obtain ⟨o, ho⟩ := R.toFra.alive (.inl rfl); exact Heap.lt_size ho
  have hI : ∀ b ∈ [s.heap.objs.size + 1, s.heap.objs.size], b ≠ env.locals ∧ G.h₀.get? b = none := fun b hb => by
    rcases List.mem_cons.mp hb with rfl | hb
    · refine ⟨fun q => ?_, ?_⟩
      · rw [← q] at hC; exact Nat.lt_irrefl _ (Nat.lt_of_succ_lt hC)
      · cases q : G.h₀.get? (s.heap.objs.size + 1) with
        | none => rfl
        | some o => exact absurd (Heap.lt_size (R.keep _ _ q)) (Nat.not_lt.mpr (Nat.le_succ _))
    · rw [List.mem_singleton.mp hb]
      refine ⟨fun q => ?_, ?_⟩
      · rw [← q] at hC; exact Nat.lt_irrefl _ hC
      · cases q : G.h₀.get? s.heap.objs.size with
        | none => rfl
        | some o => exact absurd (Heap.lt_size (R.keep _ _ q)) (Nat.lt_irrefl _)
  have hev : ∀ (A' : Around), A'.handled = none → wpAny G.M A' (eval (.Call (.Name "enumerate" b1) [.Name "addr" b2] [] b3) env) (fun xv s₁ => wpAny G.M A' (pyIter xv) (fun it s₂ => it = .ref (s.heap.objs.size + 1) ∧ ∃ h' St,
      (∀ A' ρ g0, A'.handled = none → IterOK G A' (.Tuple elts tk tpos) ρ (s.heap.objs.size + 1) g0 ((x.cps.toList.map fun c => PV.str ⟨#[c]⟩).mapIdx fun i p => ItP.pair (.int i) p) (fun _ => True) St) ∧ St 0 [s.heap.objs.size + 1, s.heap.objs.size] { s with heap := h' } ∧
      (∀ i fp s', St i fp s' → fp = [s.heap.objs.size + 1, s.heap.objs.size]) ∧ (∀ b o, s.heap.get? b = some o → h'.get? b = some o) ∧ (∀ b ∈ [s.heap.objs.size + 1, s.heap.objs.size], ∃ o, h'.get? b = some o) ∧ s₂ = { s with heap := h' }) (fun _ _ => False) s₁) (fun _ _ => False) s := by
    intro A' hA'
    refine Call_ ?_ rfl
    refine Calls.Name_function_global (by rw [hE.scope]; exact hE.kind) (hE.kindOf hk) (Calls.loadGlobal_builtin (by rw [hE.globals]; exact G.g.keeps R.keep) h0 (by rw [hE.builtins]; exact G.b.keeps R.keep) ((G.bi _ (by decide)).trans PyProof.Rows.boot_enumerate) ?_) rfl
    obtain ⟨mc, hn, hm⟩ := R.ns
    obtain ⟨i, h1, h2⟩ := (haddr 0 false none).get
    obtain ⟨cv, e, hc⟩ := hm i "addr" _ (by rw [hE.scope]; exact h1) h2
    obtain ⟨t, rfl⟩ := hc.strE
    refine callWith_type1 (spliced_more (wpAny_Name (wpAny_loadName_local (by rw [hE.scope]; exact hE.kind) (hE.kindOf (List.mem_of_getElem? h1)) hn e ?_) rfl) rfl) rfl rfl
    refine Calls.spliced_nil ?_
    exact enumStr_at hA' fun h' St w1 w2 w3 w4 w5 => ⟨rfl, h', St, w1, w2, w3, w4, w5, rfl⟩
  rw [exec_For]
  refine seg_bind_wrap (wpAny_standAt ?_)
  refine seg_bind_wrap (wpAny_mono (hev _ hA.1) (fun xv s₁ h₁ => ?_) fun _ _ h => h.elim)
  refine seg_bind_wrap (wpAny_of_eq (a := xv) rfl ?_)
  refine seg_bind_wrap (wpAny_standAt ?_)
  refine seg_bind_wrap (wpAny_holding (wpAny_mono h₁ (fun it s₂ h₂ => ?_) fun _ _ h => h.elim))
  obtain ⟨rfl, h', St, W, hst, hSt, hk', hal', rfl⟩ := h₂
  refine seg_call fun p => ?_
  obtain ⟨R3, S3⟩ := R.of0 (R.toRel0.grow (h' := h') (tk := s.toks) hk')
  have J3 := J.step (List.mem_cons_self ..) hcl S3 R3
  rw [hg]
  refine seg_escLoop hE hcl rfl hI (aok_loop hA) W hSt hasg hbody rest _ 0 0 false none [] s₀ _ hesc rfl (Nat.zero_le _) rfl J3 (fun b hb => ?_) hst
  rcases List.mem_cons.mp hb with rfl | hb
  · exact R3.toFra.alive (.inl rfl)
  · exact hal' b hb

set_option maxRecDepth 100000 in
/-- the whole of the generator's run -/
theorem gen_seg (g : GOK G) {x : Str} (hz : x.cps.size < 1000) (hx : escL x.cps.toList false = false) {fd : FuncData} {oc : Value} {od : Option Addr} {sl : Array (Option Value)} (hl : (KH G.w.params).lookup 21 = some ⟨oc, od, .func fd, sl⟩) :
    ∃ body, fd.body = .stmts body ∧ ∀ (A : Around) (s : Shared), EnvOK fd.scope env → env.cells = [] → AOk (d + 1) A → Rel G env [] [some (.str x), none, none, none, none] [] s →
      Seg G.M A.in1 (gR [env.locals, s.heap.objs.size + 1, s.heap.objs.size]) (gY G [env.locals, s.heap.objs.size + 1, s.heap.objs.size] (toks x.cps.toList 0 0 false)) (toks x.cps.toList 0 0 false).length s (.func body env) (G.M.den (.func body env)) [] s := by
  cases hl
  refine ⟨_, rfl, fun A s hE hcl hA R => ?_⟩
  have hen : G.mg "enumerate" = none := mg_none_of g.X G.g rfl
  refine seg_func ?_
  refine seg_execs_cons ?_
  refine seg_wrap (wpAny_Assign_Name (wpAny_Constant_int (store_local' (m' := [some (.str x), some (.int 0), none, none, none]) hE (R.tok _).1 (by walk_at "ux put") (.int 0 _) fun s1 S1 R1 z1 => ?_)) rfl)
  refine seg_execs_cons ?_
  refine seg_wrap (wpAny_Assign_Name (PyProof.Rows.Constant_bool (store_local' (m' := gm x 0 false none) hE R1 (by walk_at "ux put") (.bool false) fun s2 S2 R2 z2 => ?_)) rfl)
  refine seg_execs_cons ?_
  have hsz : s2.heap.objs.size = s.heap.objs.size := z2.trans z1
  have J2 : GJ G env (gm x 0 false none) [env.locals, s.heap.objs.size + 1, s.heap.objs.size] s s2 := (GJ.again (fp := [env.locals, s.heap.objs.size + 1, s.heap.objs.size]) R hcl (fun _ e => e) R.keep R.bare).step (List.mem_cons_self ..) hcl (Rel.trans (Rel.trans (R.tok _).2 (R.tok (s.toks + 1)).1 S1) R1 S2) R2
  have hC : env.locals < s2.heap.objs.size := by obtain ⟨o, ho⟩ := R2.toFra.alive (.inl rfl); exact Heap.lt_size ho
  rw [← hsz] at J2 ⊢
  refine seg_For_esc hE hcl hA rfl hen (by walk_at "ux mem") (fun pv esc och => by walk_at "ux at") (fun p ch pv esc och => Asg.pair (m₁ := gm x p esc och) (by walk_at "ux put") (by walk_at "ux put")) ?hbody J2 hx ?rest
  case rest =>
    intro pv och s₀ s' J
    refine seg_execs_cons ?_
    refine seg_wrap ((Es.if (b := false) (Tr.name (Ev.local (by walk_at "ux at"))) Ex.nil : Es G _ d (gm x pv false och) [] _ .next (gm x pv false och) []) env _ [] s' _ _ hE (aok_func hA) J.rel fun ρ' s3 cf S R hcf => ?_)
    cases hcf
    have J3 := J.step (List.mem_cons_self ..) hcl S R
    exact seg_end (.ok (.ret .none)) ⟨rfl, rfl, J3.since, J3.os, J3.gsz, J3.gen, J3.rel.bare⟩
  case hbody =>
    intro p ch esc T pre s₀ s3 c fs K Hh gd lv hyl J halive hAo hfs hfg hgd next
    have hfp : ∀ b ∈ [env.locals, s2.heap.objs.size + 1, s2.heap.objs.size], b = env.locals ∨ ¬ Own env b := fun b hb => by
      by_cases q : b = env.locals
      · exact .inl q
      · exact .inr (not_own hcl q)
    refine seg_execs_cons ?_
    refine seg_If (b := esc) hE hcl (List.mem_cons_self ..) hAo J halive hfp (Tr.name (Ev.local (by walk_at "ux at"))) fun s4 k1 k2 J4 al4 => ?_
    cases esc with
    | true =>
      refine seg_execs_cons ?_
      refine seg_pair (a := p) (b := Str.ofString "\\" ++ ⟨#[ch]⟩) (i := pre.length) hE hcl (List.mem_cons_self ..) hAo J4 al4 hfp (Ev.local (by walk_at "ux at")) (Ev.bin Ev.const_str (Ev.local (by walk_at "ux at")) (op_cat ?cat)) (by rw [hyl]; simp [emitE]) (by rw [hyl]; simp [emitE]; (first | lia | omega)) hfs hgd hfg fun s5 k3 k4 J5 al5 => ?_
      case cat =>
        have hsl : sizeLine = 16777216 := by decide +kernel
        rw [hsl]
        exact (by decide : 1 + 1 ≤ 16777216)
      refine seg_execs_cons ?_
      refine seg_Es hE hcl (List.mem_cons_self ..) hAo J5 al5 hfp (Es.assign Ev.const_bool (by walk_at "ux put")) fun s6 k5 k6 J6 al6 => ?_
      exact next _ s6 ((stab.trans ⟨k1, k2⟩ ⟨k3, k4⟩).trans ⟨k5, k6⟩) J6 al6
    | false =>
      refine seg_execs_cons ?_
      refine seg_If (b := ((⟨#[ch]⟩ : Str).cps.toList == (Str.ofString "\\").cps.toList)) hE hcl (List.mem_cons_self ..) hAo J4 al4 hfp (Tr.cmp (Ev.local (by walk_at "ux at")) Ev.const_str op_eqs) fun s5 k3 k4 J5 al5 => ?_
      by_cases hq : ((⟨#[ch]⟩ : Str).cps.toList == (Str.ofString "\\").cps.toList) = true
      · rw [if_pos hq]
        have e1 : emitE p ch false = [] := by simp only [emitE, Bool.false_eq_true, if_false, if_pos hq]
        rw [e1] at hyl ⊢
        refine seg_execs_cons ?_
        refine seg_Es hE hcl (List.mem_cons_self ..) hAo J5 al5 hfp (Es.assign Ev.const_bool (by walk_at "ux put")) fun s6 k5 k6 J6 al6 => ?_
        have e2 : escE ch false = true := by simp only [escE, Bool.false_eq_true, if_false, hq]
        rw [e2] at next
        exact next _ s6 ((stab.trans ⟨k1, k2⟩ ⟨k3, k4⟩).trans ⟨k5, k6⟩) J6 al6
      · rw [if_neg hq]
        have e1 : emitE p ch false = [((p : Int), ⟨#[ch]⟩)] := by simp only [emitE, Bool.false_eq_true, if_false, if_neg hq]
        rw [e1] at hyl ⊢
        refine seg_execs_cons ?_
        have e2 : escE ch false = false := by simp only [escE, Bool.false_eq_true, if_false]; simpa using hq
        rw [e2] at next
        refine seg_pair (a := p) (b := ⟨#[ch]⟩) (i := pre.length) hE hcl (List.mem_cons_self ..) hAo J5 al5 hfp (Ev.local (by walk_at "ux at")) (Ev.local (by walk_at "ux at")) (by rw [hyl]; simp) (by rw [hyl]; simp; (first | lia | omega)) hfs hgd hfg fun s6 k5 k6 J6 al6 => ?_
        exact next _ s6 ((stab.trans ⟨k1, k2⟩ ⟨k3, k4⟩).trans ⟨k5, k6⟩) J6 al6
end
end

section
variable {G : Gd} {cs : Scope} {d : Nat} {m m₁ m₂ m' : Mem} {H H₁ H₂ H₃ H' : Hp} {pos : Pos}

theorem pyNext_genQ {prog : Program} {w : World} {A : Around} {E : Value → Shared → Prop} {s : Shared} {a : Addr} {g n : Nat} {gs : GenState} {R : GenEnd} {Y : Protocol} {Q : Option Value → Shared → Prop} (hh : A.handled = none)
    (hl : s.heap.NoLimit) (hroom : A.depth < recursionLimit)
    (hg : s.heap.IsGen a g) (hgs : s.gens[g]? = some gs) (hr : ∀ n s₀ r s₁, R n s₀ r s₁ → r = .ok (.ret .none))
    (hgo : gs.Goes (model prog w) A.in1 R Y n (.send .none) (s.setGen g .running))
    (hY : ∀ v s₁ gs', gs'.bare = true → Y (n - 1) (s.setGen g .running) v s₁ (fun r' s'' => match n with
        | 0 => False
        | m + 1 => gs'.Goes (model prog w) A.in1 R Y m r' s'') → Q (some v) (s₁.setGen g gs'))
    (hP : ∀ s₁ r, R n (s.setGen g .running) r s₁ → ∀ h', (∀ b o, s₁.heap.get? b = some o → h'.get? b = some o) → Q none { s₁.setGen g .finished with heap := h' }) :
    wpAny (model prog w) A (pyNext (.ref a)) Q E s := by
  unfold pyNext
  refine wpAny_bind (wpAny_attempt (wpAny_callSpecial?_slot (name := Str.ofString "__next__") hg.typeIs slot_gen_next
    (wpAny_call_entry slot_gen_next hg.typeIs entry_gen_next ?_ (args_gen_next _))))
  show wpAny _ A.in1 (Builtin.Generator.genWake (.ref a) (.send .none)) _ _ s
  unfold Builtin.Generator.genWake
  refine wpAny_bind (wpAny_holding (wpAny_genNumber hg (wpAny_bind (wpAny_genState hgs ?_))))
  cases gs with
  | running => exact hgo.elim
  | finished => exact hgo.elim
  | _ =>
    refine wpAny_bind (wpAny_roomToWake hl hroom ?_)
    show wpAny _ A.in1 (.resume g (.send .none) [] _) _ _ s
    refine wpAny_resumeQ hgs hgo (fun x s₁ hx => ?_) (fun v s₁ gs' hb hv => ?_)
    · have e := hr _ _ _ _ hx
      subst e
      show wpAny _ A.in1 (newExc (.type "StopIteration") [] >>= _) _ _ _
      refine wpAny_bind ?_
      simp only [newExc, newTuple]
      refine wpAny_bind (wpAny_newObj_type ?_ (by size_fits))
      refine wpAny_bind (m := firstArgMember _ _) (wpAny_of_eq (a := Value.none) (by first | rfl | (simp only [firstArgMember]; rfl)) ?_)
      refine wpAny_newObj_type ?_ (by size_fits)
      simp only [raiseNew]
      refine wpAny_bind (wpAny_bind (wpAny_handled ?_))
      first | rw [show A.in1.handled = none from hh] | rw [hh]
      refine wpAny_throw ?_
      refine wpAny_bind (wpAny_isInstance (T := "StopIteration") (b := true) ⟨_, Heap.get?_push_size _ rfl, rfl⟩ isSubtype_stop ?_)
      exact wpAny_pure (hP s₁ _ hx _ fun b o hb => Heap.get?_push_of_some _ (Heap.get?_push_of_some _ hb))
    · exact wpAny_pure ⟨v, rfl, wpAny_pure (hY v s₁ gs' hb hv)⟩

theorem setGen_bare {s : Shared} {g : Nat} {x : GenState} (h : ∀ y ∈ s.gens, y.bare = true) (hx : x.bare = true) : ∀ y ∈ (s.setGen g x).gens, y.bare = true := by
  intro y hy
  obtain ⟨i, hi⟩ := Array.getElem?_of_mem hy
  by_cases e : i = g
  · subst e
    have hlt : i < s.gens.size := by
      have := (Array.getElem?_eq_some_iff.mp hi).1
      simpa [Shared.setGen] using this
    rw [setGen_self (Array.getElem?_eq_getElem hlt)] at hi
    cases hi; exact hx
  · simp only [Shared.setGen] at hi
    rw [Array.getElem?_setIfInBounds_ne (Ne.symm e)] at hi
    exact h _ (Array.mem_of_getElem? hi)
theorem setGen_size {s : Shared} {g : Nat} {x : GenState} : (s.setGen g x).gens.size = s.gens.size := by simp [Shared.setGen]
theorem setGen_ne {s : Shared} {g i : Nat} {x : GenState} (h : i ≠ g) : (s.setGen g x).gens[i]? = s.gens[i]? := by simp [Shared.setGen, Ne.symm h]

/-- where the generator stands before its i-th item -/
noncomputable def GSt (G : Gd) (A : Around) (a C B g : Nat) (yl : List (Int × Str)) : Nat → List Addr → Shared → Prop
  | 0, fq, s => fq = [a, C] ∧ s.heap.IsGen a g ∧ s.heap.objs.size = B ∧ ∃ gs, s.gens[g]? = some gs ∧ gs.Goes G.M A.in1 (gR [C, B + 1, B]) (gY G [C, B + 1, B] yl) yl.length (.send .none) (s.setGen g .running)
  | i + 1, fq, s => fq = [a, C, B + 1, B] ∧ s.heap.IsGen a g ∧ ∃ gs, s.gens[g]? = some gs ∧ ∀ s'' : Shared, (∀ b ∈ [C, B + 1, B], ∀ o, s.heap.get? b = some o → s''.heap.get? b = some o) → (∀ b o, G.h₀.get? b = some o → s''.heap.get? b = some o) → (∀ x ∈ s''.gens, x.bare = true) → s.gens.size ≤ s''.gens.size →
      gs.Goes G.M A.in1 (gR [C, B + 1, B]) (gY G [C, B + 1, B] yl) (yl.length - (i + 1)) (.send .none) s''

theorem GSt.goes {A : Around} {a C B g : Nat} {yl : List (Int × Str)} {i : Nat} {fq : List Addr} {s : Shared} (h : GSt G A a C B g yl i fq s) (hk : ∀ b o, G.h₀.get? b = some o → s.heap.get? b = some o) (hb : ∀ x ∈ s.gens, x.bare = true) :
    s.heap.IsGen a g ∧ (∃ gs, s.gens[g]? = some gs ∧ gs.Goes G.M A.in1 (gR [C, B + 1, B]) (gY G [C, B + 1, B] yl) (yl.length - i) (.send .none) (s.setGen g .running)) ∧ a ∈ fq ∧ ∀ b ∈ [C, B + 1, B], b ∈ fq ∨ s.heap.get? b = none := by
  cases i with
  | zero =>
    obtain ⟨rfl, h1, h2, gs, h3, h4⟩ := h
    refine ⟨h1, ⟨gs, h3, h4⟩, by simp, fun b hb => ?_⟩
    simp only [List.mem_cons, List.not_mem_nil, or_false] at hb
    have lt : ∀ b, s.heap.objs.size ≤ b → s.heap.get? b = none := fun b hb => by
      cases q : s.heap.get? b with
      | none => rfl
      | some o => exact absurd (Heap.lt_size q) (Nat.not_lt.mpr hb)
    rcases hb with rfl | rfl | rfl
    · exact .inl (by simp)
    · exact .inr (lt _ (by rw [h2]; exact Nat.le_succ _))
    · exact .inr (lt _ (by rw [h2]; exact Nat.le_refl _))
  | succ i =>
    obtain ⟨rfl, h1, gs, h3, h4⟩ := h
    exact ⟨h1, ⟨gs, h3, h4 _ (fun _ _ _ e => e) hk (setGen_bare hb rfl) (by rw [setGen_size]; exact Nat.le_refl _)⟩, by simp, fun b hb => .inl (List.mem_cons_of_mem _ hb)⟩

theorem gen_iterOK {A : Around} {target : Expr} {ρ : List Addr} {a C B g : Nat} {yl : List (Int × Str)} (hA : AOk d A) (haB : a < B) (haC : a ≠ C) :
    IterOK G A target ρ a g (yl.map fun q => ItP.pair (.int q.1) (.str q.2)) (fun _ => True) (GSt G A a C B g yl) where
  item := fun ρ' H s i fq P Q E hpre R _ hst hget k => by
    obtain ⟨hgen, ⟨gs, hgs, hgo⟩, hafq, hfq⟩ := hst.goes R.keep R.bare
    rw [List.getElem?_map] at hget
    obtain ⟨q, hq, rfl⟩ := Option.map_eq_some_iff.mp hget
    have hlt : i < yl.length := (List.getElem?_eq_some_iff.mp hq).1
    obtain ⟨mm, hm⟩ : ∃ mm, yl.length - i = mm + 1 := ⟨yl.length - i - 1, by (first | lia | omega)⟩
    rw [hm] at hgo
    refine pyNext_genQ (n := mm + 1) hA.1 (G.lim.keeps R.keep) (by have := hA.2.1; (first | lia | omega)) hgen hgs (fun n s₀ r s₁ h => h.1) hgo (fun v s₁ gs' hb hy => ?_) (fun s₁ r hr => ?_)
    · obtain ⟨⟨j, q', hj, hjn, hp⟩, y1, y2, y3, y4, y5, yk, y6, y7⟩ := hy
      have hji : j = i := by
        have : j + (mm + 1 - 1) + 1 = yl.length := hjn
        (first | lia | omega)
      subst hji
      rw [hq] at hj
      cases hj
      have hag : a ∉ [C, B + 1, B] := by
        simp only [List.mem_cons, List.not_mem_nil, or_false, not_or]
        exact ⟨haC, by (first | lia | omega), by (first | lia | omega)⟩
      obtain ⟨oa, nm, qn, hoa, hr⟩ := hgen
      have hoa' : s₁.heap.get? a = some oa := y1 a oa hag hoa
      refine ⟨v, rfl, ?_⟩
      obtain ⟨T, ca, cb, rfl, hT, c1, c2⟩ := hp ρ'
      refine letgo_quiet (s := s₁.setGen g gs') hoa' hr.1 (by decide +kernel) ?_
      refine k (s₁.setGen g gs') _ [a, C, B + 1, B] ⟨rfl, ⟨oa, nm, qn, hoa', hr⟩, gs', ?_, fun s'' w1 w2 w3 w4 => ?_⟩ ⟨fun b o hb e => ?_, y2, ?_, fun i hi => ?_, fun hb' => setGen_bare y5 hb⟩ (fun b hb => ?_) ⟨T, ca, cb, rfl, hT, c1, c2⟩
      · have hsz : g < s₁.gens.size := by
          have h1 : g < s.gens.size := (Array.getElem?_eq_some_iff.mp hgs).1
          rw [setGen_size] at y3
          exact Nat.lt_of_lt_of_le h1 y3
        simp [Shared.setGen, hsz]
      · have := y7 s'' (fun b hb o e => w1 b hb o e) w2 w3 (by rw [setGen_size] at w4; exact w4)
        have e : yl.length - (j + 1) = mm := by (first | lia | omega)
        rw [e]
        exact this
      · refine y1 b o (fun hbm => ?_) e
        rcases hfq b hbm with h | h
        · exact hb h
        · rw [h] at e; cases e
      · rw [setGen_size] at y3 ⊢; exact y3
      · rw [setGen_ne (Nat.ne_of_lt hi)]
        have hig : i < s.gens.size := Nat.lt_trans hi (Array.getElem?_eq_some_iff.mp hgs).1
        rw [y4 i (by rw [setGen_size]; exact hig), setGen_ne (Nat.ne_of_lt hi)]
      · rcases List.mem_cons.mp hb with rfl | hb
        · exact ⟨.inl hafq, oa, hoa'⟩
        · exact ⟨hfq b hb, y6 b hb⟩
    · exact absurd hr.2.1 (Nat.succ_ne_zero mm)
  done := fun ρ' H s fq Q E hpre R _ hst k => by
    obtain ⟨hgen, ⟨gs, hgs, hgo⟩, hafq, hfq⟩ := hst.goes R.keep R.bare
    rw [List.length_map, Nat.sub_self] at hgo
    refine pyNext_genQ (n := 0) hA.1 (G.lim.keeps R.keep) (by have := hA.2.1; (first | lia | omega)) hgen hgs (fun n s₀ r s₁ h => h.1) hgo (fun v s₁ gs' hb hy => ?_) (fun s₁ r hr h' hh => ?_)
    · obtain ⟨⟨j, q', hj, hjn, hp⟩, y1, y2, y3, y4, y5, yk, y6, y7⟩ := hy
      exact (y7 _ (fun _ _ _ e => e) yk y5 (Nat.le_refl _)).elim
    · obtain ⟨_, _, y1, y2, y3, y4, y5⟩ := hr
      refine k _ ⟨fun b o hb e => hh b o (y1 b o (fun hbm => ?_) e), y2, ?_, fun i hi => ?_, fun _ => setGen_bare y5 rfl⟩
      · rcases hfq b hbm with h | h
        · exact hb h
        · rw [h] at e; cases e
      · show s.gens.size ≤ (s₁.setGen g .finished).gens.size
        rw [setGen_size] at y3 ⊢; exact y3
      · show (s₁.setGen g .finished).gens[i]? = _
        rw [setGen_ne (Nat.ne_of_lt hi)]
        have hig : i < s.gens.size := Nat.lt_trans hi (Array.getElem?_eq_some_iff.mp hgs).1
        rw [y4 i (by rw [setGen_size]; exact hig), setGen_ne (Nat.ne_of_lt hi)]
  stable := fun i fq s s' h hk hsz hg => by
    obtain ⟨rfl, ⟨oa, nm, qn, hoa, hr⟩, gs, h3, h4⟩ := h
    refine ⟨rfl, ⟨oa, nm, qn, hk a (by simp) oa hoa, hr⟩, gs, ?_, fun s'' w1 w2 w3 w4 => h4 s'' (fun b hb o e => w1 b hb o (hk b (List.mem_cons_of_mem _ hb) o e)) w2 w3 (Nat.le_trans hsz w4)⟩
    rw [hg g (Nat.le_refl _) (Array.getElem?_eq_some_iff.mp h3).1]
    exact h3
  self := fun s fq Q E h hq => wpAny_pyIter_gen h.2.1 hq

theorem Rel0.growG {ρ : List Addr} {s : Shared} (R : Rel0 G ρ H s) {h' : Heap} {tk : Nat} {x : GenState} (hx : x.bare = true) (hk : ∀ b o, s.heap.get? b = some o → h'.get? b = some o) :
    Rel0 G ρ H { s with heap := h', toks := tk, gens := s.gens.push x } ∧ Stp (fun _ => False) ρ s ρ { s with heap := h', toks := tk, gens := s.gens.push x } := by
  refine ⟨⟨fun b o e => hk b o (R.keep b o e), R.len, fun i xs e => let ⟨a, ha, vs, n, hg, hc⟩ := R.objs i xs e; ⟨a, ha, vs, n, hk _ _ hg, hc⟩, R.nodup, R.fresh, fun y hy => ?_⟩,
   ⟨List.prefix_refl _, fun _ h => .inl h, fun b o _ _ e => hk b o e, rfl, ?_, fun i hi => ?_⟩⟩
  · rcases Array.mem_push.mp hy with h | rfl
    · exact R.bare y h
    · exact hx
  · show s.gens.size ≤ (s.gens.push x).size
    rw [Array.size_push]; exact Nat.le_succ _
  · show (s.gens.push x)[i]? = s.gens[i]?
    exact Array.getElem?_push_lt hi |>.trans (Array.getElem?_eq_getElem hi).symm

theorem no_cells {ns : List (Str × NameKind)} (hb : ns.all (fun y => !(y.2 == .cell || y.2 == .free)) = true) : ∀ x k, (x, k) ∈ ns → (k = .cell ∨ k = .free) → False := fun x k h hk => by
  have := List.all_eq_true.mp hb (x, k) h
  rcases hk with rfl | rfl <;> simp at this
theorem gen_rel {env : Env} {s : Shared} {mc : Str → Option Value} (hn : s.heap.Ns env.locals mc) (ha : G.h₀.get? env.locals = none) (hc : env.cells = []) (hk : ∀ b o, G.h₀.get? b = some o → s.heap.get? b = some o) (hb : ∀ x ∈ s.gens, x.bare = true)
    (hcel : ∀ (i : Nat) (x : Str) (k : NameKind) (v : PV), env.scope.names[i]? = some (x, k) → (k = .cell ∨ k = .free) → m[i]? = some (some v) → False ∧ True)
    (hm : ∀ (i : Nat) (x : Str) (v : PV), env.scope.names[i]? = some (x, .local) → m[i]? = some (some v) → ∃ cv, mc x = some cv ∧ CV [] v cv) : Rel G env [] m [] s where
  keep := hk
  len := rfl
  objs := fun i xs e => by simp at e
  nodup := List.nodup_nil
  fresh := fun a h => absurd h List.not_mem_nil
  bare := hb
  above := ha
  ns := ⟨mc, hn, hm⟩
  cel := fun i x k v hi hk' hv => by
    obtain ⟨c, hx⟩ := hcel i x k v hi hk' hv
    exact c.elim
  cok := fun x c hx => by rw [hc] at hx; cases hx
  off := List.not_mem_nil

theorem IterOK.lower {A : Around} {target : Expr} {ρ : List Addr} {I : Addr} {g0 g1 : Nat} {items : List ItP} {ok : Hp → Prop} {St : Nat → List Addr → Shared → Prop} (W : IterOK G A target ρ I g1 items ok St) (h : g0 ≤ g1) : IterOK G A target ρ I g0 items ok St where
  item := fun ρ' H s i fp P Q E h1 h2 h3 h4 h5 k => W.item ρ' H s i fp P Q E h1 h2 h3 h4 h5 fun s' cv fp' a b c e => k s' cv fp' a ⟨b.heap, b.os, b.gsz, fun i hi => b.gen i (Nat.lt_of_lt_of_le hi h), b.bare⟩ c e
  done := fun ρ' H s fp Q E h1 h2 h3 h4 k => W.done ρ' H s fp Q E h1 h2 h3 h4 fun s' b => k s' ⟨b.heap, b.os, b.gsz, fun i hi => b.gen i (Nat.lt_of_lt_of_le hi h), b.bare⟩
  stable := fun i fp s s' h1 h2 h3 h4 => W.stable i fp s s' h1 h2 h3 fun i hi => h4 i (Nat.le_trans h hi)
  self := W.self
theorem gen_made {env genv : Env} {A : Around} {ρ ρ₂ : List Addr} {s s₂ : Shared} {x : Str} {body : List Stmt} {h' : Heap} {og : Obj} {tk : Nat} {nm qn : Value} {mc : Str → Option Value} {yl : List (Int × Str)} {target : Expr} {Q : Value → Shared → Prop} {E : Value → Shared → Prop} (hA : AOk (d + 2) A)
    (S : Stp (Own env) ρ s ρ₂ s₂) (R₂ : Rel G env ρ₂ m H₁ s₂) (hl : genv.locals = s₂.heap.objs.size) (hcl : genv.cells = []) (hn : h'.Ns s₂.heap.objs.size mc) (sz' : h'.objs.size = s₂.heap.objs.size + 1) (keep' : ∀ b o, s₂.heap.get? b = some o → h'.get? b = some o)
    (h1 : og.cls = .type "generator") (h2 : og.data = .fields #[.int s₂.gens.size 0, nm, qn]) (h3 : og.slots = #[])
    (hseg : ∀ (A : Around) (s : Shared), AOk (d + 1) A → Rel G genv [] [some (.str x), none, none, none, none] [] s →
      Seg G.M A.in1 (gR [genv.locals, s.heap.objs.size + 1, s.heap.objs.size]) (gY G [genv.locals, s.heap.objs.size + 1, s.heap.objs.size] yl) yl.length s (.func body genv) (G.M.den (.func body genv)) [] s)
    (hcel : ∀ (i : Nat) (y : Str) (k : NameKind) (v : PV), genv.scope.names[i]? = some (y, k) → (k = .cell ∨ k = .free) → ([some (.str x), none, none, none, none] : Mem)[i]? = some (some v) → False ∧ True)
    (hm : ∀ (i : Nat) (y : Str) (v : PV), genv.scope.names[i]? = some (y, .local) → ([some (.str x), none, none, none, none] : Mem)[i]? = some (some v) → ∃ cv, mc y = some cv ∧ CV [] v cv)
    (k : ∀ ρ' s' I fp St, Stp (Own env) ρ s ρ' s' → Rel G env ρ' m H₁ s' → IterOK G A target ρ' I s.gens.size (yl.map fun q => ItP.pair (.int q.1) (.str q.2)) (fun _ => True) St → St 0 fp s' → (∀ b ∈ fp, s.heap.get? b = none ∧ b ∉ ρ' ∧ ¬ Own env b ∧ G.h₀.get? b = none ∧ ∃ o, s'.heap.get? b = some o) → Q (.ref I) s') :
    wpAny G.M A (pyIter (.ref h'.objs.size)) Q E { s₂ with heap := h'.push og, toks := tk, gens := s₂.gens.push (.fresh (.func body genv)) } := by
  have hgen : ({ s₂ with heap := h'.push og, toks := tk, gens := s₂.gens.push (.fresh (.func body genv)) } : Shared).heap.IsGen h'.objs.size s₂.gens.size := by
    exact ⟨og, nm, qn, Heap.get?_push_size _ (by obtain ⟨c, dd, dt, sl⟩ := og; dsimp only at h2; subst h2; rfl), h1, h2, h3⟩
  refine wpAny_pyIter_gen hgen ?_
  have keep2 : ∀ b o, s₂.heap.get? b = some o → (h'.push og).get? b = some o := fun b o e => Heap.get?_push_of_some _ (keep' b o e)
  obtain ⟨R3, S3⟩ := R₂.of0 (R₂.toRel0.growG (h' := h'.push og) (tk := tk) (x := .fresh (.func body genv)) rfl keep2)
  have f1 := fresh_facts S R₂ (get?_size_none s₂.heap)
  have f2 := fresh_facts S R₂ (get?_size1_none s₂.heap)
  have hC : ∃ o, (h'.push og).get? s₂.heap.objs.size = some o := by
    obtain ⟨o, _, _, ho, _⟩ := hn
    exact ⟨o, Heap.get?_push_of_some _ ho⟩
  have hget : (s₂.gens.push (.fresh (.func body genv)))[s₂.gens.size]? = some (.fresh (.func body genv)) := Array.getElem?_push_size ..
  have Rg : Rel G genv [] [some (.str x), none, none, none, none] [] (({ s₂ with heap := h'.push og, toks := tk, gens := s₂.gens.push (.fresh (.func body genv)) } : Shared).setGen s₂.gens.size .running) :=
    gen_rel (s := ({ s₂ with heap := h'.push og, toks := tk, gens := s₂.gens.push (.fresh (.func body genv)) } : Shared).setGen s₂.gens.size .running) (mc := mc) (by rw [hl]; exact hn.at' fun o e => Heap.get?_push_of_some _ e) (by rw [hl]; exact f1.2.2.2) hcl (fun b o e => R3.keep b o e) (setGen_bare R3.bare rfl) hcel hm
  have hs := hseg A _ ⟨hA.1, by have := hA.2.1; (first | lia | omega), by have := hA.2.2; (first | lia | omega)⟩ Rg
  have hzB : (h'.push og).objs.size = s₂.heap.objs.size + 2 := by rw [Heap.size_push, sz']
  refine k ρ₂ _ h'.objs.size [h'.objs.size, s₂.heap.objs.size] (GSt G A h'.objs.size genv.locals (h'.push og).objs.size s₂.gens.size yl) (Rel.trans S R₂ S3) R3 ?_ ⟨by rw [hl], hgen, rfl, _, hget, rfl, hs⟩ (fun b hb => ?_)
  · have W := gen_iterOK (G := G) (target := target) (ρ := ρ₂) (a := h'.objs.size) (C := genv.locals) (B := (h'.push og).objs.size) (g := s₂.gens.size) (yl := yl) hA (by rw [Heap.size_push]; exact Nat.lt_succ_self _) (by rw [hl, sz']; exact Nat.succ_ne_self _)
    exact W.lower S.gsz
  · rcases List.mem_cons.mp hb with rfl | hb
    · rw [sz']
      refine ⟨f2.1, f2.2.1, f2.2.2.1, f2.2.2.2, ?_⟩
      obtain ⟨o, _, _, ho, _⟩ := hgen
      rw [sz'] at ho
      exact ⟨o, ho⟩
    · rw [List.mem_singleton.mp hb]
      exact ⟨f1.1, f1.2.1, f1.2.2.1, f1.2.2.2, hC⟩

set_option maxRecDepth 100000 in
theorem Itb.gen (g : GOK G) {target e : Expr} {p : Pos} {x : Str} (hz : x.cps.size < 1000) (hx : escL x.cps.toList false = false) (hk : ((Str.ofString "_iter_escaped_chars"), NameKind.globalImplicit) ∈ cs.names) (h : Ev G cs (d + 2) m H e (.str x) H₁) (hp : plainE e = true := by rfl) :
    Itb G cs (d + 2) m H target (.Call (.Name (Str.ofString "_iter_escaped_chars") p) [e] [] pos) ((toks x.cps.toList 0 0 false).map fun q => ItP.pair (.int q.1) (.str q.2)) (fun _ => True) H₁ := fun env A ρ s Q E hE hA R k => by
  have hgl : G.mg (Str.ofString "_iter_escaped_chars") = some (.ref 21) := mg_of g.X G.g rfl
  refine Call_ ?_ rfl
  refine (Ev.global (G := G) (d := d + 2) (m := m) (H := H) (cs := cs) hgl hk) env A ρ s _ E hE hA R fun ρ₁ s₁ cf S₁ R₁ hcf => ?_
  cases hcf
  have ha' := (Evs.cons h Evs.nil hp) pos env A ρ₁ s₁
  dsimp only at ha'
  rw [starEach_plain hp] at ha' ⊢
  have ho0 := g.X 21 _ rfl
  refine Calls.callWith_function (Calls.evalArgs_plain (ha' _ E hE hA R₁ fun ρ₂ s₂ cvs S₂ R₂ hcs => ⟨⟨R₂.keep _ _ ho0, rfl⟩, ?_⟩))
  cases hcs with
  | cons hc hn =>
  cases hn
  obtain ⟨t, rfl⟩ := hc.strE
  have hcd : s₂.heap.CodeRec _ _ := (codeRec_of (cd := .ref 20) (q := Str.ofString "_iter_escaped_chars") g.X (by rfl)).keeps R₂.keep
  refine wpAny_call (codeAny_call_generator (by have := hA.2.1; (first | lia | omega)) (R₂.keep _ _ ho0) rfl rfl rfl rfl hcd ?_)
  refine (BindsTo.of_eq (s := s₂) (binds := [(Str.ofString "addr", .str x t)]) rfl) _ _ _ _ ?_
  refine wpAny_newFunctionEnv (by decide) (by intro y hy; rw [List.mem_singleton.mp hy]; rfl) (fun h' hn hs => ?_) rfl
  have sz' : h'.objs.size = s₂.heap.objs.size + 1 := by rw [hs.1, Heap.size_push]
  have keep' : ∀ b o, s₂.heap.get? b = some o → h'.get? b = some o := fun b o e => hs.extBut b o (Nat.ne_of_lt (Heap.lt_size e)) (Heap.get?_push_of_some _ e)
  obtain ⟨bd, hbd, hseg⟩ := gen_seg (d := d) (env := newEnv _ s₂.heap.objs.size _ _ _ _ _ _ _) g hz hx rfl
  cases hbd
  refine ⟨(G.lim.keeps R₂.keep).keeps keep', ?_⟩
  exact gen_made (s₂ := s₂) hA (Rel.trans S₁ R₁ S₂) R₂ rfl rfl hn sz' keep' rfl rfl rfl (fun A s hA R => hseg A s ⟨rfl, rfl, rfl, rfl, rfl, by decide, (fun _ _ _ h => by cases h), (fun x k h hk => (no_cells (by rfl) x k h hk).elim)⟩ rfl hA R) (by
    intro i y k v h1 h2 h3
    match i, h1, h3 with
    | 0, h1, _ =>
      cases h1
      rcases h2 with h2 | h2 <;> cases h2
    | 1, _, h3 => cases h3
    | 2, _, h3 => cases h3
    | 3, _, h3 => cases h3
    | 4, _, h3 => cases h3
    | n + 5, _, h3 => cases h3) (by
    intro i y v h1 h2
    match i, h1, h2 with
    | 0, h1, h2 =>
      cases h1
      cases h2
      exact ⟨_, rfl, .str _ _⟩
    | 1, _, h3 => cases h3
    | 2, _, h3 => cases h3
    | 3, _, h3 => cases h3
    | 4, _, h3 => cases h3
    | n + 5, _, h3 => cases h3) k
end

section
variable {G : Gd} {cs : Scope} {d : Nat} {m m₁ m₂ m' : Mem} {H H₁ H₂ H₃ H' : Hp} {pos : Pos}

theorem Ev.sliceS {value : Expr} {lo hi : Option Expr} {p : Pos} {x : Str} {a b : Option Int} (hv : Ev G cs d m H value (.str x) H) (ha : EvP G cs d m H lo a) (hb : EvP G cs d m H hi b) (hz : x.length ≤ sizeLine)
    (ht : ∀ o r, letTemporaryGo value o r = pure () := by intro _ _; rfl) : Ev G cs d m H (.Subscript value (.Slice lo hi none p) pos) (.str (Txt.slice x a b)) H := fun env A ρ s Q E hE hA R k =>
  wpAny_Subscript_str_slice (hv env A ρ s _ E hE hA R fun ρ₁ s₁ ca S₁ R₁ c₁ => ha env A ρ₁ s₁ _ E hE hA R₁ fun ρ₂ s₂ vl S₂ R₂ pl => hb env A ρ₂ s₂ _ E hE hA R₂ fun ρ₃ s₃ vu S₃ R₃ pu => by
    obtain ⟨t, rfl⟩ := c₁.strE
    have fin : ∀ (l u : Option (Int × Tok)), vl = partValue l → vu = partValue u → l.map (·.1) = a → u.map (·.1) = b → (sliceMade x t l u none).post Q { s₃ with heap := s₃.heap.push { cls := .type "slice", data := .fields #[vl, vu, .none] } } := by
      rintro l u rfl rfl rfl rfl
      refine post_val_or_str ⟨Nat.le_trans (Txt.slice_le x _ _) hz, fun t' kk => ?_⟩
      obtain ⟨R4, S4⟩ := R₃.new { cls := .type "slice", data := .fields #[partValue l, partValue u, .none] } kk
      exact k ρ₃ _ _ (Rel.trans (Rel.trans (Rel.trans S₁ R₁ S₂) R₂ S₃) R₃ S4) R4 (.str _ _)
    have part : ∀ {v : Value} {p : Option Int}, IsPart v p → ∃ l : Option (Int × Tok), v = partValue l ∧ l.map (·.1) = p := by
      intro v p h
      cases h with
      | none => exact ⟨none, rfl, rfl⟩
      | int i t => exact ⟨some (i, t), rfl, rfl⟩
    obtain ⟨l, e1, e2⟩ := part pl
    obtain ⟨u, e3, e4⟩ := part pu
    exact ⟨x, t, l, u, rfl, e1, e3, fin l u e1 e3 e2 e4⟩) ht

theorem CVs.strs {ρ : List Addr} : ∀ {ys : List Str} {vs : List Value}, CVs ρ (ys.map PV.str) vs → StrsAre vs ys
  | [], _, h => by cases h; exact .nil
  | y :: r, _, h => by
    obtain ⟨_, _, rfl, a, b⟩ := h.consE
    cases a with
    | str _ t => exact .cons y t b.strs

set_option maxRecDepth 100000 in
theorem Ev.join {o : Expr} {apos : Pos} {e : Expr} {n : Nat} {x : Str} {ys : List Str} (ho : Ev G cs d m H o (.str x) H) (ha : Ev G cs d m H e (.ref n) H) (hx : H[n]? = some (ys.map PV.str)) (hok : (ys.map (·.length)).sum + ys.length * x.length ≤ 16777216) (pl : Env → Sem Bool)
    (hp : plainE e = true := by rfl)
    (he : ∀ env, eval (.Call (.Attribute o "join" apos) [e] [] pos) env = (do
      let ov ← eval o env
      standAt apos.atName
      let (f, first) ← holding [ov] (getMethod ov "join" (pl env))
      callWith pos f first (backTo pos (starEach [e] env)) [])) :
    Ev G cs d m H (.Call (.Attribute o "join" apos) [e] [] pos) (.str (Txt.join x ys)) H := fun env A ρ s Q E hE hA R k => by
  refine MethodCall_ (pl := pl env) (ho env A ρ s _ E hE hA R fun ρ₁ s₁ ca S₁ R₁ c₁ => ?_) (he env)
  cases c₁ with
  | str _ t =>
  refine GM.join ?_
  have ha' := (Evs.cons ha Evs.nil hp) pos env A ρ₁ s₁
  dsimp only at ha'
  have hn := noStar (pos := pos) (env := env) (es := [e]) (by simp [hp])
  rw [starEach_plain hp] at ha' hn ⊢
  refine Calls.callWith_builtin hn (Calls.evalArgs_plain (ha' _ E hE hA R₁ fun ρ₂ s₂ cvs S₂ R₂ hcs => ?_))
  cases hcs with
  | cons c2 h =>
  cases h
  obtain ⟨_, rfl, e1⟩ := c2.refE
  obtain ⟨vs, hl, hcv⟩ := (R₂.toRel0.at hx e1).isList
  refine join_list hl (by simpa using hcv.strs) hok fun t' kk => ?_
  exact k ρ₂ _ _ (Rel.trans (Rel.trans S₁ R₁ S₂) R₂ (R₂.tok kk).2) (R₂.tok kk).1 (.str _ _)

theorem set_last {α : Type} (l : List α) (a b : α) : (l ++ [a]).set l.length b = l ++ [b] := by simp
theorem get_last {α : Type} (l : List α) (a : α) : (l ++ [a])[l.length]? = some a := by simp

theorem Es.ifm {test : Expr} {body orelse : List Stmt} {b : Bool} {f : PF} (h : Tr G cs d m H test b H₁) (h' : Ex G cs d m H₁ (if b then body else orelse) f m H₂) : Es G cs d m H (.If test body orelse pos) f m H₂ := Es.if h h'

/-- a loop over pairs that folds -/
theorem fo_fold {σ : Type} {target : Expr} {body : List Stmt} {Mf : σ → Option PV → Option PV → Mem} {Hf : σ → Hp} {step : σ → Int × Str → σ} (I : Nat → σ → Prop) (N : Nat)
    (hasg : ∀ (q : Int × Str) (S : σ) o1 o2, Asg G cs d target (ItP.pair (.int q.1) (.str q.2)) (Mf S o1 o2) (Hf S) (Mf S (some (.int q.1)) (some (.str q.2))))
    (hb : ∀ (q : Int × Str) (k : Nat) (S : σ), I k S → k < N → I (k + 1) (step S q) ∧ Ex G cs d (Mf S (some (.int q.1)) (some (.str q.2))) (Hf S) body .next (Mf (step S q) (some (.int q.1)) (some (.str q.2))) (Hf (step S q))) :
    ∀ (ts : List (Int × Str)) (k : Nat) (S : σ) o1 o2, I k S → k + ts.length ≤ N → I (k + ts.length) (ts.foldl step S) ∧
      ∃ o1' o2', Fo G cs d target body (fun _ => True) (ts.map fun q => ItP.pair (.int q.1) (.str q.2)) (Mf S o1 o2) (Hf S) .next (Mf (ts.foldl step S) o1' o2') (Hf (ts.foldl step S))
  | [], k, S, o1, o2, hI, h => ⟨hI, o1, o2, .done trivial⟩
  | q :: r, k, S, o1, o2, hI, h => by
    simp only [List.length_cons] at h
    obtain ⟨h1, h2⟩ := hb q k S hI (by (first | lia | omega))
    obtain ⟨h3, o1', o2', w⟩ := fo_fold I N hasg hb r (k + 1) (step S q) _ _ h1 (by (first | lia | omega))
    refine ⟨?_, o1', o2', .step trivial (hasg q S o1 o2) h2 w⟩
    have e : k + (q :: r).length = k + 1 + r.length := by simp only [List.length_cons]; (first | lia | omega)
    rw [e]; exact h3

theorem toks_len : ∀ (l : List Nat) (p : Nat) (pv : Int) (esc : Bool), (toks l p pv esc).length ≤ l.length + 1
  | [], p, pv, esc => by cases esc <;> simp [toks]
  | c :: r, p, pv, esc => by
    rw [toks_cons, List.length_append]
    have := toks_len r (p + 1) p (escE c esc)
    have h : (emitE p c esc).length ≤ 1 := by
      unfold emitE
      split
      · simp
      · split <;> simp
    simp only [List.length_cons]
    (first | lia | omega)

noncomputable def optPV : Option Int → PV
  | none => .none
  | some i => .int i
noncomputable abbrev SS := Int × Option Int × List Str
noncomputable def sStep (x : Str) (S : SS) (q : Int × Str) : SS :=
  if (q.2.cps.toList == (Str.ofString "\"").cps.toList) = true then (match S.2.1 with
    | none => (S.1, some q.1, S.2.2)
    | some o => (q.1 + 1, none, if (S.1 != o) = true then S.2.2 ++ [Txt.slice x (some S.1) (some o)] else S.2.2)) else S
noncomputable abbrev sM (x : Str) (n : Nat) (S : SS) (o1 o2 : Option PV) : Mem := [some (.str x), some (.int S.1), some (optPV S.2.1), some (.ref n), o1, o2, none, none]
noncomputable abbrev sH (H : Hp) (S : SS) : Hp := H ++ [S.2.2.map PV.str]
theorem strip_len (x : Str) : ∀ (ts : List (Int × Str)) (S : SS), (ts.foldl (sStep x) S).2.2.length ≤ S.2.2.length + ts.length
  | [], S => Nat.le_refl _
  | q :: r, S => by
    rw [List.foldl_cons]
    refine Nat.le_trans (strip_len x r _) ?_
    have h : (sStep x S q).2.2.length ≤ S.2.2.length + 1 := by
      unfold sStep
      split
      · split
        · exact Nat.le_succ _
        · dsimp only
          split
          · simp
          · exact Nat.le_succ _
      · exact Nat.le_succ _
    simp only [List.length_cons]
    (first | lia | omega)
noncomputable def stripEnd (x : Str) : SS := (toks x.cps.toList 0 0 false).foldl (sStep x) (0, none, [])
noncomputable def stripRes (x : Str) : List Str := if (stripEnd x).1 < x.length then (stripEnd x).2.2 ++ [Txt.slice x (some (stripEnd x).1) none] else (stripEnd x).2.2
noncomputable def stripF (x : Str) : Str := if (!Txt.contains x (Str.ofString "\"")) = true then x else Txt.join (Str.ofString "") (stripRes x)

set_option maxRecDepth 100000 in
theorem strip_ok (g : GOK G) {x : Str} (hz : x.cps.size < 1000) (hx : escL x.cps.toList false = false) (hsum : ((stripRes x).map (·.length)).sum ≤ 16777216) : ∃ H', H <+: H' ∧ Cl G (d + 3) (.ref 28) [.str x] H (.str (stripF x)) H' := by
  have D := DefOK.of g (f := 28) (ps := ["addr"]) (rest := [("start", .local), ("open_pos", .local), ("result", .local), ("pos", .local), ("ch", .local), ("_iter_escaped_chars", .globalImplicit), ("len", .globalImplicit)]) rfl rfl rfl rfl rfl rfl rfl rfl rfl rfl (by decide) (by decide) (by decide)
  have hlen : G.mg "len" = none := mg_none_of g.X G.g rfl
  have hsl : sizeLine = 16777216 := by decide +kernel
  have hxl : x.length < 1000 := hz
  by_cases hq : (!Txt.contains x (Str.ofString "\"")) = true
  · have e : stripF x = x := by unfold stripF; rw [if_pos hq]
    rw [e]
    refine ⟨H, List.prefix_refl _, Cl.def' (args' := [.str x]) (fl := .ret (.str x)) D rfl (.inl rfl) (by walk_at "ux bind1") ?_⟩
    exact ⟨_, Ex.stop (Es.if (b := true) ((Tr.cmp Ev.const_str (Ev.local (v := .str x) (by walk_at "ux at")) op_nin).of hq) (Ex.stop (Es.ret (Ev.local (v := .str x) (by walk_at "ux at"))) (by walk_at "ux flow"))) (by walk_at "ux flow")⟩
  · have e : stripF x = Txt.join (Str.ofString "") (stripRes x) := by unfold stripF; rw [if_neg hq]
    rw [e]
    refine ⟨H ++ [(stripRes x).map PV.str], List.prefix_append _ _, Cl.def' (args' := [.str x]) (fl := .ret (.str (Txt.join (Str.ofString "") (stripRes x)))) D rfl (.inl rfl) (by walk_at "ux bind1") ?_⟩
    refine ⟨_, Ex.cons (Es.if (b := false) ((Tr.cmp Ev.const_str (Ev.local (v := .str x) (by walk_at "ux at")) op_nin).of (by simpa using hq)) Ex.nil) (Ex.cons (Es.assign Ev.const_int (by walk_at "ux put")) (Ex.cons (Es.assign Ev.const_none (by walk_at "ux put")) (Ex.cons (Es.assign (Ev.list Evs.nil (by simp)) (by walk_at "ux put"))
      (Ex.cons (Es.for (Itb.gen (d := d) g hz hx (by walk_at "ux mem") (Ev.local (v := .str x) (by walk_at "ux at"))) (fo_fold (Mf := sM x H.length) (Hf := sH H) (step := sStep x) (fun k S => S.2.2.length ≤ k) 1002 ?hasg ?hb (toks x.cps.toList 0 0 false) 0 (0, none, []) none none ?h0 ?h1).2.choose_spec.choose_spec)
      (Ex.cons (Es.ifm (b := decide ((stripEnd x).1 < (x.length : Int))) (Tr.cmp (Ev.local (v := .int (stripEnd x).1) (by walk_at "ux at")) (Ev.callB (Ev.builtin hlen PySem.boot_len (by walk_at "ux mem")) (Evs.cons (Ev.local (v := .str x) (by walk_at "ux at")) Evs.nil) (cl_len_str (by (first | lia | omega)))) op_lt) ?hif)
      (Ex.stop (Es.ret (Ev.join Ev.const_str (Ev.local (v := .ref H.length) (by walk_at "ux at")) (get_last _ _) ?hj _ (by rfl) (fun env => rfl))) (by walk_at "ux flow")))))))⟩
    case h0 => exact Nat.le_refl _
    case h1 =>
      have := toks_len x.cps.toList 0 0 false
      have h2 : x.cps.toList.length < 1000 := by rw [Array.length_toList]; exact hz
      (first | lia | omega)
    case hj =>
      have e0 : (Str.ofString "").length = 0 := by decide
      rw [e0]
      simpa using hsum
    case hasg =>
      intro q S o1 o2
      exact Asg.pair (m₁ := sM x H.length S (some (.int q.1)) o2) (by walk_at "ux put") (by walk_at "ux put")
    case hif =>
      unfold stripRes
      by_cases hlt : (stripEnd x).1 < (x.length : Int)
      · rw [if_pos hlt, if_pos (by simpa using hlt)]
        rw [List.map_append]
        have hap := cl_append (G := G) (d := d + 2) (H := H ++ [(stripEnd x).2.2.map PV.str]) (n := H.length) (v := .str (Txt.slice x (some (stripEnd x).1) none)) (get_last _ _) (by
          have h1 := strip_len x (toks x.cps.toList 0 0 false) (0, none, [])
          have h2 := toks_len x.cps.toList 0 0 false
          have h3 : x.cps.toList.length < 1000 := by rw [Array.length_toList]; exact hz
          rw [List.length_map, hsl]
          have h4 : (stripEnd x).2.2.length ≤ 0 + (toks x.cps.toList 0 0 false).length := h1
          (first | lia | omega))
        rw [set_last] at hap
        exact Ex.cons (Es.expr (Ev.meth (Ev.local (v := .ref H.length) (by walk_at "ux at")) (get_last _ _) PySem.F.slot_list_append rfl (Evs.cons (Ev.sliceS (Ev.local (v := .str x) (by walk_at "ux at")) (EvP.some (Ev.local (v := .int (stripEnd x).1) (by walk_at "ux at"))) EvP.none (by (first | lia | omega))) Evs.nil) hap (by rfl) _ (fun env => rfl))) Ex.nil
      · rw [if_neg hlt, if_neg (by simpa using hlt)]
        exact Ex.nil
    case hb =>
      rintro q k ⟨st, op, res⟩ hI hk
      dsimp only at hI
      have hL : (sStep x (st, op, res) q).2.2.length ≤ k + 1 := by
        have := strip_len x [q] (st, op, res)
        simp only [List.foldl_cons, List.foldl_nil, List.length_singleton] at this
        (first | lia | omega)
      refine ⟨hL, ?_⟩
      refine Ex.cons (Es.if (b := (q.2.cps.toList == (Str.ofString "\"").cps.toList)) (Tr.cmp (Ev.local (v := .str q.2) (by walk_at "ux at")) Ev.const_str op_eqs) ?_) Ex.nil
      by_cases hq : (q.2.cps.toList == (Str.ofString "\"").cps.toList) = true
      · rw [if_pos hq]
        cases op with
        | none =>
          have e1 : sStep x (st, none, res) q = (st, some q.1, res) := by unfold sStep; rw [if_pos hq]
          rw [e1]
          exact Ex.cons (Es.if (b := true) (Tr.cmp (Ev.local (v := .none) (by walk_at "ux at")) Ev.const_none (op_is_none (.inl rfl))) (Ex.cons (Es.assign (Ev.local (v := .int q.1) (by walk_at "ux at")) (by walk_at "ux put")) Ex.nil)) Ex.nil
        | some o =>
          by_cases hne : (st != o) = true
          · have e1 : sStep x (st, some o, res) q = (q.1 + 1, none, res ++ [Txt.slice x (some st) (some o)]) := by unfold sStep; rw [if_pos hq]; simp only; rw [if_pos hne]
            rw [e1]
            have hap := cl_append (G := G) (d := d + 2) (H := H ++ [res.map PV.str]) (n := H.length) (v := .str (Txt.slice x (some st) (some o))) (get_last _ _) (by rw [List.length_map, hsl]; (first | lia | omega))
            rw [set_last] at hap
            have e2 : sH H (q.1 + 1, none, res ++ [Txt.slice x (some st) (some o)]) = H ++ [res.map PV.str ++ [.str (Txt.slice x (some st) (some o))]] := by simp [sH]
            rw [e2]
            exact Ex.cons (Es.if (b := false) (Tr.cmp (Ev.local (v := .int o) (by walk_at "ux at")) Ev.const_none (op_is_none (.inr (.inl ⟨_, rfl⟩)))) (Ex.cons (Es.ifm (b := true) ((Tr.cmp (Ev.local (v := .int st) (by walk_at "ux at")) (Ev.local (v := .int o) (by walk_at "ux at")) op_ne).of hne)
              (Ex.cons (Es.expr (Ev.meth (Ev.local (v := .ref H.length) (by walk_at "ux at")) (get_last _ _) PySem.F.slot_list_append rfl (Evs.cons (Ev.sliceS (Ev.local (v := .str x) (by walk_at "ux at")) (EvP.some (Ev.local (v := .int st) (by walk_at "ux at"))) (EvP.some (Ev.local (v := .int o) (by walk_at "ux at"))) (by (first | lia | omega))) Evs.nil) hap (by rfl) _ (fun env => rfl))) Ex.nil))
              (Ex.cons (Es.assign (Ev.bin (Ev.local (v := .int q.1) (by walk_at "ux at")) Ev.const_int op_add) (by walk_at "ux put")) (Ex.cons (Es.assign Ev.const_none (by walk_at "ux put")) Ex.nil)))) Ex.nil
          · have e1 : sStep x (st, some o, res) q = (q.1 + 1, none, res) := by unfold sStep; rw [if_pos hq]; simp only; rw [if_neg hne]
            rw [e1]
            exact Ex.cons (Es.if (b := false) (Tr.cmp (Ev.local (v := .int o) (by walk_at "ux at")) Ev.const_none (op_is_none (.inr (.inl ⟨_, rfl⟩)))) (Ex.cons (Es.ifm (b := false) ((Tr.cmp (Ev.local (v := .int st) (by walk_at "ux at")) (Ev.local (v := .int o) (by walk_at "ux at")) op_ne).of (by simpa using hne)) Ex.nil)
              (Ex.cons (Es.assign (Ev.bin (Ev.local (v := .int q.1) (by walk_at "ux at")) Ev.const_int op_add) (by walk_at "ux put")) (Ex.cons (Es.assign Ev.const_none (by walk_at "ux put")) Ex.nil)))) Ex.nil
      · rw [if_neg hq]
        have e1 : sStep x (st, op, res) q = (st, op, res) := by unfold sStep; rw [if_neg hq]
        rw [e1]
        exact Ex.nil
end

section
variable {G : Gd} {cs : Scope} {d : Nat} {m m₁ m₂ m' : Mem} {H H₁ H₂ H₃ H' : Hp} {pos : Pos}

noncomputable def eqS (a b : Str) : Bool := a.cps.toList == b.cps.toList
noncomputable def chkGo : List (Int × Str) → Int → Option Int
  | [], o => some o
  | q :: r, o => if eqS q.2 (Str.ofString "(") = true then chkGo r (o + 1) else if eqS q.2 (Str.ofString ")") = true then (if o - 1 < 0 then none else chkGo r (o - 1)) else chkGo r o
noncomputable def chkF (x : Str) : Bool := match chkGo (toks (stripF x).cps.toList 0 0 false) 0 with
  | some o => o == 0
  | none => false
noncomputable abbrev cM (y : Str) (o : Int) (o1 o2 : Option PV) : Mem := [some (.str y), some (.int o), o1, o2, none, none]

theorem fo_chk {y : Str} {target : Expr} {body : List Stmt}
    (hasg : ∀ (q : Int × Str) o o1 o2, Asg G cs d target (ItP.pair (.int q.1) (.str q.2)) (cM y o o1 o2) H (cM y o (some (.int q.1)) (some (.str q.2))))
    (hb1 : ∀ (q : Int × Str) o, eqS q.2 (Str.ofString "(") = true → Ex G cs d (cM y o (some (.int q.1)) (some (.str q.2))) H body .next (cM y (o + 1) (some (.int q.1)) (some (.str q.2))) H)
    (hb2 : ∀ (q : Int × Str) o, ¬ eqS q.2 (Str.ofString "(") = true → eqS q.2 (Str.ofString ")") = true → o - 1 < 0 → Ex G cs d (cM y o (some (.int q.1)) (some (.str q.2))) H body (.ret (.bool false)) (cM y (o - 1) (some (.int q.1)) (some (.str q.2))) H)
    (hb3 : ∀ (q : Int × Str) o, ¬ eqS q.2 (Str.ofString "(") = true → eqS q.2 (Str.ofString ")") = true → ¬ o - 1 < 0 → Ex G cs d (cM y o (some (.int q.1)) (some (.str q.2))) H body .next (cM y (o - 1) (some (.int q.1)) (some (.str q.2))) H)
    (hb4 : ∀ (q : Int × Str) o, ¬ eqS q.2 (Str.ofString "(") = true → ¬ eqS q.2 (Str.ofString ")") = true → Ex G cs d (cM y o (some (.int q.1)) (some (.str q.2))) H body .next (cM y o (some (.int q.1)) (some (.str q.2))) H) :
    ∀ (ts : List (Int × Str)) (o : Int) o1 o2, (∀ o', chkGo ts o = some o' → ∃ a b, Fo G cs d target body (fun _ => True) (ts.map fun q => ItP.pair (.int q.1) (.str q.2)) (cM y o o1 o2) H .next (cM y o' a b) H) ∧
      (chkGo ts o = none → ∃ m', Fo G cs d target body (fun _ => True) (ts.map fun q => ItP.pair (.int q.1) (.str q.2)) (cM y o o1 o2) H (.ret (.bool false)) m' H)
  | [], o, o1, o2 => ⟨fun o' h => by cases h; exact ⟨o1, o2, .done trivial⟩, fun h => by cases h⟩
  | q :: r, o, o1, o2 => by
    simp only [chkGo]
    by_cases h1 : eqS q.2 (Str.ofString "(") = true
    · rw [if_pos h1]
      obtain ⟨a, b⟩ := fo_chk hasg hb1 hb2 hb3 hb4 r (o + 1) (some (.int q.1)) (some (.str q.2))
      exact ⟨fun o' h => let ⟨x, y, w⟩ := a o' h; ⟨x, y, .step trivial (hasg q o o1 o2) (hb1 q o h1) w⟩, fun h => let ⟨x, w⟩ := b h; ⟨x, .step trivial (hasg q o o1 o2) (hb1 q o h1) w⟩⟩
    · rw [if_neg h1]
      by_cases h2 : eqS q.2 (Str.ofString ")") = true
      · rw [if_pos h2]
        by_cases h3 : o - 1 < 0
        · rw [if_pos h3]
          exact ⟨fun o' h => (nomatch h), fun _ => ⟨_, .ret trivial (hasg q o o1 o2) (hb2 q o h1 h2 h3)⟩⟩
        · rw [if_neg h3]
          obtain ⟨a, b⟩ := fo_chk hasg hb1 hb2 hb3 hb4 r (o - 1) (some (.int q.1)) (some (.str q.2))
          exact ⟨fun o' h => let ⟨x, y, w⟩ := a o' h; ⟨x, y, .step trivial (hasg q o o1 o2) (hb3 q o h1 h2 h3) w⟩, fun h => let ⟨x, w⟩ := b h; ⟨x, .step trivial (hasg q o o1 o2) (hb3 q o h1 h2 h3) w⟩⟩
      · rw [if_neg h2]
        obtain ⟨a, b⟩ := fo_chk hasg hb1 hb2 hb3 hb4 r o (some (.int q.1)) (some (.str q.2))
        exact ⟨fun o' h => let ⟨x, y, w⟩ := a o' h; ⟨x, y, .step trivial (hasg q o o1 o2) (hb4 q o h1 h2) w⟩, fun h => let ⟨x, w⟩ := b h; ⟨x, .step trivial (hasg q o o1 o2) (hb4 q o h1 h2) w⟩⟩

set_option maxRecDepth 100000 in
theorem check_ok (g : GOK G) {x : Str} (hz : x.cps.size < 1000) (hx : escL x.cps.toList false = false) (hsum : ((stripRes x).map (·.length)).sum ≤ 16777216) (hz2 : (stripF x).cps.size < 1000) (hx2 : escL (stripF x).cps.toList false = false) :
    ∃ H', H <+: H' ∧ Cl G (d + 4) (.ref 35) [.str x] H (.bool (chkF x)) H' := by
  have D := DefOK.of g (f := 35) (ps := ["addr"]) (rest := [("opens", .local), ("pos", .local), ("ch", .local), ("_strip_quoted_realnames", .globalImplicit), ("_iter_escaped_chars", .globalImplicit)]) rfl rfl rfl rfl rfl rfl rfl rfl rfl rfl (by decide) (by decide) (by decide)
  obtain ⟨H', hpre, hs⟩ := strip_ok (d := d) (H := H) g hz hx hsum
  have hgs : G.mg (Str.ofString "_strip_quoted_realnames") = some (.ref 28) := mg_of g.X G.g rfl
  have hob := g.X 28 _ rfl
  refine ⟨H', hpre, Cl.def' (args' := [.str x]) (fl := .ret (.bool (chkF x))) D rfl (.inl rfl) (by walk_at "ux bind1") ?_⟩
  cases hc : chkGo (toks (stripF x).cps.toList 0 0 false) 0 with
  | none =>
    have e : chkF x = false := by unfold chkF; rw [hc]
    rw [e]
    refine ⟨_, Ex.cons (Es.assign (Ev.callF (Ev.global hgs (by walk_at "ux mem")) hob rfl (Evs.cons (Ev.local (v := .str x) (by walk_at "ux at")) Evs.nil) hs) (by walk_at "ux put")) (Ex.cons (Es.assign Ev.const_int (by walk_at "ux put"))
      (Ex.stop (Es.for (Itb.gen (d := d + 1) g hz2 hx2 (by walk_at "ux mem") (Ev.local (v := .str (stripF x)) (by walk_at "ux at"))) ((fo_chk (y := stripF x) ?hasg ?hb1 ?hb2 ?hb3 ?hb4 (toks (stripF x).cps.toList 0 0 false) 0 none none).2 hc).choose_spec) (by walk_at "ux flow")))⟩
    case hasg =>
      intro q o o1 o2
      exact Asg.pair (m₁ := cM (stripF x) o (some (.int q.1)) o2) (by walk_at "ux put") (by walk_at "ux put")
    case hb1 =>
      intro q o h
      exact Ex.cons (Es.if (b := true) ((Tr.cmp (Ev.local (v := .str q.2) (by walk_at "ux at")) Ev.const_str op_eqs).of h) (Ex.cons (Es.aug (by walk_at "ux at") Ev.const_int op_iadd (by walk_at "ux put")) Ex.nil)) Ex.nil
    case hb2 =>
      intro q o h1 h2 h3
      exact Ex.stop (Es.if (b := false) ((Tr.cmp (Ev.local (v := .str q.2) (by walk_at "ux at")) Ev.const_str op_eqs).of (by simpa [eqS] using h1)) (Ex.stop (Es.if (b := true) ((Tr.cmp (Ev.local (v := .str q.2) (by walk_at "ux at")) Ev.const_str op_eqs).of h2) (Ex.cons (Es.aug (by walk_at "ux at") Ev.const_int op_isub (by walk_at "ux put")) (Ex.stop (Es.if (b := true) ((Tr.cmp (Ev.local (v := .int (o - 1)) (by walk_at "ux at")) Ev.const_int op_lt).of (by simpa using h3)) (Ex.stop (Es.ret Ev.const_bool) (by walk_at "ux flow"))) (by walk_at "ux flow")))) (by walk_at "ux flow"))) (by walk_at "ux flow")
    case hb3 =>
      intro q o h1 h2 h3
      exact Ex.cons (Es.if (b := false) ((Tr.cmp (Ev.local (v := .str q.2) (by walk_at "ux at")) Ev.const_str op_eqs).of (by simpa [eqS] using h1)) (Ex.cons (Es.if (b := true) ((Tr.cmp (Ev.local (v := .str q.2) (by walk_at "ux at")) Ev.const_str op_eqs).of h2) (Ex.cons (Es.aug (by walk_at "ux at") Ev.const_int op_isub (by walk_at "ux put")) (Ex.cons (Es.if (b := false) ((Tr.cmp (Ev.local (v := .int (o - 1)) (by walk_at "ux at")) Ev.const_int op_lt).of (by simpa using h3)) Ex.nil) Ex.nil))) Ex.nil)) Ex.nil
    case hb4 =>
      intro q o h1 h2
      exact Ex.cons (Es.if (b := false) ((Tr.cmp (Ev.local (v := .str q.2) (by walk_at "ux at")) Ev.const_str op_eqs).of (by simpa [eqS] using h1)) (Ex.cons (Es.if (b := false) ((Tr.cmp (Ev.local (v := .str q.2) (by walk_at "ux at")) Ev.const_str op_eqs).of (by simpa [eqS] using h2)) Ex.nil) Ex.nil)) Ex.nil
  | some o =>
    have e : chkF x = (o == 0) := by unfold chkF; rw [hc]
    rw [e]
    refine ⟨_, Ex.cons (Es.assign (Ev.callF (Ev.global hgs (by walk_at "ux mem")) hob rfl (Evs.cons (Ev.local (v := .str x) (by walk_at "ux at")) Evs.nil) hs) (by walk_at "ux put")) (Ex.cons (Es.assign Ev.const_int (by walk_at "ux put"))
      (Ex.cons (Es.for (Itb.gen (d := d + 1) g hz2 hx2 (by walk_at "ux mem") (Ev.local (v := .str (stripF x)) (by walk_at "ux at"))) ((fo_chk (y := stripF x) ?hasg ?hb1 ?hb2 ?hb3 ?hb4 (toks (stripF x).cps.toList 0 0 false) 0 none none).1 o hc).choose_spec.choose_spec)
      (Ex.stop (Es.ret (Ev.cmp (Ev.local (v := .int o) (by walk_at "ux at")) Ev.const_int op_eq)) (by walk_at "ux flow"))))⟩
    case hasg =>
      intro q o o1 o2
      exact Asg.pair (m₁ := cM (stripF x) o (some (.int q.1)) o2) (by walk_at "ux put") (by walk_at "ux put")
    case hb1 =>
      intro q o h
      exact Ex.cons (Es.if (b := true) ((Tr.cmp (Ev.local (v := .str q.2) (by walk_at "ux at")) Ev.const_str op_eqs).of h) (Ex.cons (Es.aug (by walk_at "ux at") Ev.const_int op_iadd (by walk_at "ux put")) Ex.nil)) Ex.nil
    case hb2 =>
      intro q o h1 h2 h3
      exact Ex.stop (Es.if (b := false) ((Tr.cmp (Ev.local (v := .str q.2) (by walk_at "ux at")) Ev.const_str op_eqs).of (by simpa [eqS] using h1)) (Ex.stop (Es.if (b := true) ((Tr.cmp (Ev.local (v := .str q.2) (by walk_at "ux at")) Ev.const_str op_eqs).of h2) (Ex.cons (Es.aug (by walk_at "ux at") Ev.const_int op_isub (by walk_at "ux put")) (Ex.stop (Es.if (b := true) ((Tr.cmp (Ev.local (v := .int (o - 1)) (by walk_at "ux at")) Ev.const_int op_lt).of (by simpa using h3)) (Ex.stop (Es.ret Ev.const_bool) (by walk_at "ux flow"))) (by walk_at "ux flow")))) (by walk_at "ux flow"))) (by walk_at "ux flow")
    case hb3 =>
      intro q o h1 h2 h3
      exact Ex.cons (Es.if (b := false) ((Tr.cmp (Ev.local (v := .str q.2) (by walk_at "ux at")) Ev.const_str op_eqs).of (by simpa [eqS] using h1)) (Ex.cons (Es.if (b := true) ((Tr.cmp (Ev.local (v := .str q.2) (by walk_at "ux at")) Ev.const_str op_eqs).of h2) (Ex.cons (Es.aug (by walk_at "ux at") Ev.const_int op_isub (by walk_at "ux put")) (Ex.cons (Es.if (b := false) ((Tr.cmp (Ev.local (v := .int (o - 1)) (by walk_at "ux at")) Ev.const_int op_lt).of (by simpa using h3)) Ex.nil) Ex.nil))) Ex.nil)) Ex.nil
    case hb4 =>
      intro q o h1 h2
      exact Ex.cons (Es.if (b := false) ((Tr.cmp (Ev.local (v := .str q.2) (by walk_at "ux at")) Ev.const_str op_eqs).of (by simpa [eqS] using h1)) (Ex.cons (Es.if (b := false) ((Tr.cmp (Ev.local (v := .str q.2) (by walk_at "ux at")) Ev.const_str op_eqs).of (by simpa [eqS] using h2)) Ex.nil) Ex.nil)) Ex.nil
end

set_option maxRecDepth 100000
open Sem (wp)
theorem slot_wd_get : Slot "wrapper_descriptor" "__get__" "wrapper_descriptor.__get__" :=
  .of (owner := "wrapper_descriptor") (n := "__get__") (by rw [typeLookup_type, builtinLookup_eq_fast]; kernel_rfl) (by decide +kernel) (by decide +kernel) (by decide +kernel)
    (by first | exact .inl (by decide +kernel) | exact .inr (by decide +kernel)) (by rw [isSubtype_type]; kernel_rfl)
theorem lk_wd_set : typeLookup (.type "wrapper_descriptor") "__set__" = pure none := by rw [typeLookup_type, builtinLookup_eq_fast]; kernel_rfl
theorem lk_wd_del : typeLookup (.type "wrapper_descriptor") "__delete__" = pure none := by rw [typeLookup_type, builtinLookup_eq_fast]; kernel_rfl
theorem entry_wd_get : entryFor table "wrapper_descriptor.__get__" = some Builtin.«wrapper_descriptor.__get__» := entryFor_of_tree (by kernel_rfl)
theorem entry_hasattr : entryFor table "hasattr" = some Builtin.«hasattr» := entryFor_of_tree (by kernel_rfl)
theorem typeOf_str_getitem : typeOf (.builtin "str.__getitem__") = pure (.type "wrapper_descriptor") := by kernel_rfl
theorem owner_str_getitem : ".".intercalate ("str.__getitem__".cutAt '.').dropLast = "str" := by decide +kernel
theorem sub_str_owner : isSubtype (.type "str") (.type (".".intercalate ("str.__getitem__".cutAt '.').dropLast)) = pure true := by rw [owner_str_getitem, isSubtype_type]; kernel_rfl

theorem args_wd_get (a b c : Value) : argsOk "wrapper_descriptor.__get__" ⟨[a, b, c], []⟩ := by unfold argsOk; kernel_rfl
theorem args_hasattr (a b : Value) : argsOk "hasattr" ⟨[a, b], []⟩ := by unfold argsOk; kernel_rfl

section
variable {prog : Program} {w : World} {A : Around} {E : Value → Shared → Prop} {h : Heap} {g : Array GenState} {d : Drawn} {t : Nat} {os : OsState} {x : Str} {u : Tok}

theorem wd_get_str {R : Result → Shared → Prop} (hq : ∀ a h', (∀ b o, h.get? b = some o → h'.get? b = some o) → R (.ok (.ret (.ref a))) ⟨h', g, d, t, os⟩) :
    codeAny (model prog w) A (.call (.builtin "wrapper_descriptor.__get__") ⟨[.builtin "str.__getitem__", .str x u, .type "str"], []⟩) R ⟨h, g, d, t, os⟩ := by
  have hT : (⟨h, g, d, t, os⟩ : Shared).TypeIs (.str x u) "str" := rfl
  have hT5 : (⟨h, g, d, t, os⟩ : Shared).TypeIs (.builtin "str.__getitem__") "wrapper_descriptor" := typeOf_str_getitem
  have f8 := sub_str_owner
  refine codeAny_call_builtin slot_wd_get.plain entry_wd_get (slot_wd_get.check _ _ _ _ _ _ _ _ hT5 (args_wd_get _ _ _) ?_)
  repeat (any_goals (first | assumption | wp_step))
  exact hq _ _ fun b o e => Heap.get?_push_of_some _ e

theorem gi_entry_str {tk : Tok} {Q : Fin → Shared → Prop} (hq : ∀ a h', (∀ b o, h.get? b = some o → h'.get? b = some o) → Q (.done (.ret (.ref a))) ⟨h', g, d, t, os⟩) :
    wpAny (model prog w) A (Builtin.«object.__getattribute__» ⟨[.str x u, .str "__getitem__" tk], []⟩) Q E ⟨h, g, d, t, os⟩ := by
  have hT : (⟨h, g, d, t, os⟩ : Shared).TypeIs (.str x u) "str" := rfl
  have hT5 : (⟨h, g, d, t, os⟩ : Shared).TypeIs (.builtin "str.__getitem__") "wrapper_descriptor" := typeOf_str_getitem
  have f4 : typeLookup (.type "str") "__getitem__" = pure (some (.builtin "str.__getitem__")) := F.slot_str_getitem.lookup
  have f5 := typeOf_str_getitem
  have f6 := slot_wd_get.lookup
  have f7 := lk_wd_set
  have f9 := lk_wd_del
  repeat (any_goals (first | assumption | wp_step))
  refine wd_get_str fun a h' hk => ?_
  repeat (any_goals (first | assumption | wp_step))
  exact hq _ _ hk

theorem gi_call_str {tk : Tok} {R : Result → Shared → Prop} (hq : ∀ a h', (∀ b o, h.get? b = some o → h'.get? b = some o) → R (.ok (.ret (.ref a))) ⟨h', g, d, t, os⟩) :
    codeAny (model prog w) A (.call (.builtin "object.__getattribute__") ⟨[.str x u, .str "__getitem__" tk], []⟩) R ⟨h, g, d, t, os⟩ :=
  codeAny_call_builtin F.slot_str_getattribute.plain F.entry_object_getattribute (F.slot_str_getattribute.check _ _ _ _ _ _ _ _ (show (⟨h, g, d, t, os⟩ : Shared).TypeIs (.str x u) "str" from rfl) (F.args_object_getattribute_2 _ _) (gi_entry_str hq))

theorem gi_by_str {tk : Tok} {Q : Value → Shared → Prop} (hq : ∀ a h', (∀ b o, h.get? b = some o → h'.get? b = some o) → Q (.ref a) ⟨h', g, d, t, os⟩) : wpAny (model prog w) A (getAttrBy (.str x u) (.str "__getitem__" tk) false) Q E ⟨h, g, d, t, os⟩ := by
  have hT : (⟨h, g, d, t, os⟩ : Shared).TypeIs (.str x u) "str" := rfl
  have f2 := F.slot_str_getattribute.lookup
  have f3 := F.slot_str_getattribute.bind (.str x u)
  repeat (any_goals (first | assumption | wp_step))
  refine gi_call_str fun a h' hk => ?_
  repeat (any_goals (first | assumption | wp_step))
  exact hq _ _ hk

end

set_option maxRecDepth 100000
open Sem (wp)
section
variable {prog : Program} {w : World} {A : Around} {E : Value → Shared → Prop} {h : Heap} {g : Array GenState} {d : Drawn} {t : Nat} {os : OsState} {x : Str} {u : Tok}
theorem hasattr_str {tk : Tok} {Q : Value → Shared → Prop} (hq : ∀ h', (∀ b o, h.get? b = some o → h'.get? b = some o) → Q (.bool true) ⟨h', g, d, t, os⟩) : wpAny (model prog w) A (call (.builtin "hasattr") [.str x u, .str "__getitem__" tk]) Q E ⟨h, g, d, t, os⟩ := by
  have hT : (⟨h, g, d, t, os⟩ : Shared).TypeIs (.str x u) "str" := rfl
  have f4 : typeLookup (.type "str") "__getitem__" = pure (some (.builtin "str.__getitem__")) := F.slot_str_getitem.lookup
  have f2 := F.slot_str_getattribute.lookup
  refine wpAny_call (codeAny_call_builtin (by decide +kernel) entry_hasattr ?_)
  have hck : ∀ a b : Value, checkBuiltinCall "hasattr" ⟨[a, b], []⟩ = pure () := fun a b => by kernel_rfl
  rw [hck]
  refine wpAny_pure ?_
  have hw : (withoutEnding? "str.__getitem__" "#data") = none := by decide +kernel
  unfold Builtin.hasattr
  iterate 3 wp_step
  refine wpAny_of_eq (a := ()) rfl ?_
  refine wpAny_bind (wpAny_of_eq (a := ()) rfl (wpAny_pure ?_))
  refine wpAny_bind (wpAny_of_eq (a := ()) rfl ?_)
  rw [if_neg (show ¬ ((Value.str x u == Value.builtin "__main__.__loader__#opaque") = true) from Bool.false_ne_true)]
  refine wpAny_bind (wpAny_of_eq (a := Value.type "str") rfl ?_)
  refine wpAny_bind (wpAny_of_eq (a := some (Str.ofString "__getitem__")) rfl ?_)
  refine wpAny_bind (wpAny_of_eq f4 ?_)
  refine wpAny_bind (wpAny_of_eq f2 ?_)
  rw [hw]
  rw [if_neg (show ¬ ((Option.isSome (none : Option String) && some (Value.builtin "object.__getattribute__") == some (Value.builtin "object.__getattribute__")) = true) from Bool.false_ne_true)]
  refine wpAny_bind (wpAny_of_eq (a := 0) rfl ?_)
  rw [if_neg (show ¬ (((0 : Nat) == 1) = true) from Bool.false_ne_true)]
  refine wpAny_bind (m := getAttrBy? _ _) ?_
  unfold getAttrBy?
  refine wpAny_bind (wpAny_attempt (gi_by_str fun a h' hk => ?_))
  refine wpAny_pure ?_
  exact wpAny_pure (hq h' hk)
end

section
variable {G : Gd} {cs : Scope} {d : Nat} {m m₁ m₂ m' : Mem} {H H₁ H₂ H₃ H' : Hp} {pos : Pos}

/-- a block, with a word on how it leaves -/
noncomputable def ExP (G : Gd) (cs : Scope) (d : Nat) (m : Mem) (H : Hp) (sts : List Stmt) (Post : PF → Mem → Hp → Prop) : Prop := ∃ f m' H', Ex G cs d m H sts f m' H' ∧ Post f m' H'
noncomputable def EsP (G : Gd) (cs : Scope) (d : Nat) (m : Mem) (H : Hp) (st : Stmt) (Post : PF → Mem → Hp → Prop) : Prop := ∃ f m' H', Es G cs d m H st f m' H' ∧ Post f m' H'
variable {Post : PF → Mem → Hp → Prop} {st : Stmt} {sts : List Stmt}
theorem ExP.nil (h : Post .next m H) : ExP G cs d m H [] Post := ⟨_, _, _, Ex.nil, h⟩
theorem ExP.cons (h : Es G cs d m H st .next m₁ H₁) (h' : ExP G cs d m₁ H₁ sts Post) : ExP G cs d m H (st :: sts) Post := let ⟨f, m', H', a, b⟩ := h'; ⟨f, m', H', Ex.cons h a, b⟩
theorem ExP.ret {e : Expr} {v : PV} (h : Ev G cs d m H e v H₁) (hp : Post (.ret v) m H₁) : ExP G cs d m H (.Return (some e) pos :: sts) Post := ⟨_, _, _, Ex.stop (Es.ret h) (by walk_at "ux flow"), hp⟩
theorem ExP.mono {Post' : PF → Mem → Hp → Prop} (h : ExP G cs d m H sts Post) (hp : ∀ f m H, Post f m H → Post' f m H) : ExP G cs d m H sts Post' := let ⟨f, m', H', a, b⟩ := h; ⟨f, m', H', a, hp _ _ _ b⟩
theorem ExP.consP (h : EsP G cs d m H st (fun f m' H' => (f = .next ∧ ExP G cs d m' H' sts Post) ∨ (f ≠ .next ∧ Post f m' H'))) : ExP G cs d m H (st :: sts) Post := by
  obtain ⟨f, m', H', a, (⟨rfl, b⟩ | ⟨h1, h2⟩)⟩ := h
  · exact ExP.cons a b
  · exact ⟨_, _, _, Ex.stop a h1, h2⟩
theorem EsP.if {test : Expr} {body orelse : List Stmt} {b : Bool} (h : Tr G cs d m H test b H₁) (h' : ExP G cs d m H₁ (if b then body else orelse) Post) : EsP G cs d m H (.If test body orelse pos) Post := let ⟨f, m', H', a, c⟩ := h'; ⟨f, m', H', Es.if h a, c⟩
/-- an if that is passed by -/
theorem ExP.skip {test : Expr} {body : List Stmt} (h : Tr G cs d m H test false H₁) (h' : ExP G cs d m H₁ sts Post) : ExP G cs d m H (.If test body [] pos :: sts) Post := ExP.cons (Es.if (b := false) h Ex.nil) h'
/-- an if whose body leaves -/
theorem ExP.take {test : Expr} {body orelse : List Stmt} (h : Tr G cs d m H test true H₁) (h' : ExP G cs d m H₁ body (fun f m' H' => f ≠ .next ∧ Post f m' H')) : ExP G cs d m H (.If test body orelse pos :: sts) Post := ExP.consP (EsP.if (b := true) h (ExP.mono h' fun f m' H' h => .inr h))

theorem fo_inv {target : Expr} {body : List Stmt} {ok : Hp → Prop} (I : Nat → Mem → Hp → Prop) {items : List ItP} (hok : ∀ k m H, I k m H → ok H)
    (hstep : ∀ k P m H, items[k]? = some P → I k m H → ∃ m₁, Asg G cs d target P m H m₁ ∧ ExP G cs d m₁ H body (fun f m₂ H₂ => f = .next ∧ I (k + 1) m₂ H₂)) :
    ∀ (its : List ItP) (k : Nat) (m : Mem) (H : Hp), items.drop k = its → I k m H → ∃ m' H', Fo G cs d target body ok its m H .next m' H' ∧ I (k + its.length) m' H'
  | [], k, m, H, hd, hi => ⟨m, H, .done (hok _ _ _ hi), hi⟩
  | P :: r, k, m, H, hd, hi => by
    have hget : items[k]? = some P := by
      have := congrArg (·[0]?) hd
      simpa using this
    have hdrop : items.drop (k + 1) = r := by
      have := congrArg (List.drop 1) hd
      simpa [List.drop_drop, Nat.add_comm] using this
    obtain ⟨m₁, ha, f, m₂, H₂, hx, rfl, hi'⟩ := hstep k P m H hget hi
    obtain ⟨m', H', w, hI⟩ := fo_inv I hok hstep r (k + 1) m₂ H₂ hdrop hi'
    exact ⟨m', H', .step (hok _ _ _ hi) ha hx w, by rw [List.length_cons, show k + (r.length + 1) = k + 1 + r.length by (first | lia | omega)]; exact hI⟩
theorem ExP.for {target iter : Expr} {body : List Stmt} {items : List ItP} {ok : Hp → Prop} (hi : Itb G cs d m H target iter items ok H₁) (I : Nat → Mem → Hp → Prop) (h0 : I 0 m H₁) (hok : ∀ k m H, I k m H → ok H)
    (hstep : ∀ k P m H, items[k]? = some P → I k m H → ∃ m₁, Asg G cs d target P m H m₁ ∧ ExP G cs d m₁ H body (fun f m₂ H₂ => f = .next ∧ I (k + 1) m₂ H₂))
    (h' : ∀ m' H', I items.length m' H' → ExP G cs d m' H' sts Post) (hs : ∀ env x, foldedSetIterable iter env x = pure x := by intro _ _; rfl) : ExP G cs d m H (.For target iter body [] pos :: sts) Post := by
  obtain ⟨m', H', w, hI⟩ := fo_inv I hok hstep items 0 m H₁ rfl h0
  rw [Nat.zero_add] at hI
  exact ExP.cons (Es.for hi w hs) (h' m' H' hI)

theorem Cl.defP {f : Addr} {fd : FuncData} {ps : List Str} {rest : List (Str × NameKind)} {body : List Stmt} {args args' : List PV} {P : PV → Hp → Prop} (D : DefOK G f fd ps rest body) (hl : args'.length = ps.length)
    (hb : ∀ (ρ : List Addr) (s : Shared) (cas : List Value), (∀ b o, G.h₀.get? b = some o → s.heap.get? b = some o) → CVs ρ args cas → ∃ cas', BindsTo s fd ⟨cas, []⟩ (ps.zip cas') ∧ CVs ρ args' cas')
    (h : ExP G fd.scope d (args'.map some ++ List.replicate rest.length none) H body (fun f m' H' => ∃ v, f = .ret v ∧ P v H')) : ∃ v H', Cl G (d + 1) (.ref f) args H v H' ∧ P v H' := by
  obtain ⟨fl, m', H', hx, v, rfl, hp⟩ := h
  exact ⟨v, H', Cl.def' D hl (.inl rfl) hb ⟨m', hx⟩, hp⟩

theorem cl_hasattr {x : Str} : Cl G d (.builtin "hasattr") [.str x, .str (Str.ofString "__getitem__")] H (.bool true) H := fun A ρ s cas Q E hA R hc k => by
  cases hc with
  | cons c1 h =>
  cases h with
  | cons c2 h =>
  cases h
  cases c1 with
  | str _ t =>
  obtain ⟨u, rfl⟩ := c2.strE
  refine hasattr_str (h := s.heap) (g := s.gens) (d := s.drawn) (t := s.toks) (os := s.os) fun h' hk => ?_
  obtain ⟨R2, S2⟩ := R.grow (h' := h') (tk := s.toks) hk
  exact k ρ _ _ S2 R2 (.bool true)
theorem Tr.call {f : Expr} {args : List Expr} {b : Bool} (h : Ev G cs d m H (.Call f args [] pos) (.bool b) H₁) : Tr G cs d m H (.Call f args [] pos) b H₁ := fun env A ρ s Q E hE hA R k =>
  isTrue_plain (h env A ρ s _ E hE hA R fun ρ₁ s₁ ca S₁ R₁ c₁ => by
    cases c₁
    exact wpAny_truthy_bool (k ρ₁ s₁ b S₁ R₁ rfl))

set_option maxRecDepth 100000 in
theorem concat_ok (g : GOK G) {a b : Str} (hz : a.length + b.length ≤ sizeLine) : Cl G (d + 1) (.ref 99) [.str a, .str b] H (.str (a ++ b)) H := by
  have D := DefOK.of g (f := 99) (ps := ["a", "b"]) (rest := [("msg", .local), ("hasattr", .globalImplicit), ("type", .globalImplicit), ("TypeError", .globalImplicit)]) rfl rfl rfl rfl rfl rfl rfl rfl rfl rfl (by decide) (by decide) (by decide)
  have h0 : G.mg (Str.ofString "hasattr") = none := mg_none_of g.X G.g rfl
  refine Cl.def' (args' := [.str a, .str b]) (fl := .ret (.str (a ++ b))) D rfl (.inl rfl) (by walk_at "ux bind2") ?_
  exact ⟨_, Ex.cons (Es.if (b := false) (Tr.not (Tr.call (Ev.callB (Ev.builtin h0 boot_hasattr (by walk_at "ux mem")) (Evs.cons (Ev.local (v := .str a) (by walk_at "ux at")) (Evs.cons Ev.const_str Evs.nil)) cl_hasattr))) Ex.nil) (Ex.stop (Es.ret (Ev.bin (Ev.local (v := .str a) (by walk_at "ux at")) (Ev.local (v := .str b) (by walk_at "ux at")) (op_cat hz))) (by walk_at "ux flow"))⟩

end

section
variable {G : Gd} {cs : Scope} {d : Nat} {m m₁ m₂ m' : Mem} {H H₁ H₂ H₃ H' : Hp} {pos : Pos}

/-- what a row has above t -/
noncomputable def aboveF (row : List Int) (t : Int) : Int := (pickL row (some (bisR row t : Int)) none none).sum - t * (4 - (bisR row t : Int))

set_option maxRecDepth 100000 in
theorem above_ok (g : GOK G) {n : Nat} {row : List Int} {t : Int} (hx : H[n]? = some (row.map PV.int)) (hz : row.length < 1000) (ht : -(2 ^ 64) < t ∧ t < 2 ^ 64) :
    Cl G (d + 2) (.ref 155) [.ref n, .int t] H (.int (aboveF row t)) (H ++ [(pickL row (some (bisR row t : Int)) none none).map PV.int]) := by
  have D := DefOK.of g (f := 155) (ps := ["row", "t"]) (rest := [("k", .local), ("bisect_right", .globalImplicit), ("sub", .globalImplicit), ("sum", .globalImplicit), ("mul", .globalImplicit)]) rfl rfl rfl rfl rfl rfl rfl rfl rfl rfl (by decide) (by decide) (by decide)
  have hb : G.mg (Str.ofString "bisect_right") = some (.ref 53) := mg_of g.X G.g rfl
  have hs : G.mg (Str.ofString "sub") = some (.ref 92) := mg_of g.X G.g rfl
  have hm : G.mg (Str.ofString "mul") = some (.ref 85) := mg_of g.X G.g rfl
  have hsum : G.mg (Str.ofString "sum") = none := mg_none_of g.X G.g rfl
  have o53 := g.X 53 _ rfl
  have o92 := g.X 92 _ rfl
  have o85 := g.X 85 _ rfl
  have hsl : sizeLine = 16777216 := by decide +kernel
  have hpm := pickL_map PV.int row (some (bisR row t : Int)) none none
  refine Cl.def' (args' := [.ref n, .int t]) (fl := .ret (.int (aboveF row t))) D rfl (.inl rfl) (by walk_at "ux bind2") ?_
  rw [← hpm]
  exact ⟨_, Ex.cons (Es.assign (Ev.callF (Ev.global hb (by walk_at "ux mem")) o53 rfl (Evs.cons (Ev.local (v := .ref n) (by walk_at "ux at")) (Evs.cons (Ev.local (v := .int t) (by walk_at "ux at")) Evs.nil)) (bisR_ok g hx hz)) (by walk_at "ux put"))
    (Ex.stop (Es.ret (Ev.callF (Ev.global hs (by walk_at "ux mem")) o92 rfl
      (Evs.cons (Ev.callB (Ev.builtin hsum PyProof.Rows.boot_sum (by walk_at "ux mem")) (Evs.cons (Ev.slice (Ev.local (v := .ref n) (by walk_at "ux at")) hx (EvP.some (Ev.local (v := .int (bisR row t)) (by walk_at "ux at"))) EvP.none (by rw [List.length_map, hsl]; (first | lia | omega))) Evs.nil) (cl_sum (ns := pickL row (some (bisR row t : Int)) none none) (by rw [hpm]; exact get_last _ _)))
        (Evs.cons (Ev.callF (Ev.global hm (by walk_at "ux mem")) o85 rfl (Evs.cons (Ev.local (v := .int t) (by walk_at "ux at")) (Evs.cons (Ev.callF (Ev.global hs (by walk_at "ux mem")) o92 rfl (Evs.cons Ev.const_int (Evs.cons (Ev.local (v := .int (bisR row t)) (by walk_at "ux at")) Evs.nil)) (sub_ok g)) Evs.nil)) (mul_ok g (IntMulOk.of_left (intBits_le_64 ht.1 ht.2)))) Evs.nil)) (sub_ok g))) (by walk_at "ux flow"))⟩
end

noncomputable def dressL : List Str := [Str.ofString "", Str.ofString "\\)", Str.ofString "\\(", Str.ofString "\"(\"", Str.ofString "\\\\", Str.ofString "\\\"", Str.ofString "\\\\\")\\\"\""]
noncomputable def sgc (b : Bool) : Nat := if b then 40 else 41
noncomputable def Dr (s : Str) (b : Bool) : Prop := ∃ dr ∈ dressL, s = dr ++ ⟨#[sgc b]⟩
inductive DrAll : List Str → List Bool → Prop
  | nil : DrAll [] []
  | cons {s : Str} {b : Bool} {ss : List Str} {bs : List Bool} : Dr s b → DrAll ss bs → DrAll (s :: ss) (b :: bs)
noncomputable def catS (ss : List Str) : Str := ss.foldl (· ++ ·) (Str.ofString "")
noncomputable def balGo : List Bool → Nat → Option Nat
  | [], n => some n
  | true :: r, n => balGo r (n + 1)
  | false :: _, 0 => none
  | false :: r, n + 1 => balGo r n
noncomputable def bal (l : List Bool) : Bool := balGo l 0 == some 0

noncomputable def dressN : List (List Nat × List Nat) := [([], []), ([92, 41], [92, 41]), ([92, 40], [92, 40]), ([34, 40, 34], []), ([92, 92], [92, 92]), ([92, 34], [92, 34]), ([92, 92, 34, 41, 92, 34, 34], [92, 92])]
noncomputable def outN : List (List Nat) := [[], [92, 41], [92, 40], [92, 92], [92, 34]]
/-- what is left of the text where the quotation marks are taken out -/
inductive Outs : List Nat → List Bool → Prop
  | nil : Outs [] []
  | cons {q l : List Nat} {b : Bool} {bs : List Bool} : q ∈ outN → Outs l bs → Outs (q ++ [sgc b] ++ l) (b :: bs)

theorem dressL_map : dressL.map (fun s => s.cps.toList) = dressN.map (·.1) := by decide
theorem Dr.list {s : Str} {b : Bool} (h : Dr s b) : ∃ q ∈ dressN, s.cps.toList = q.1 ++ [sgc b] := by
  obtain ⟨dr, hd, rfl⟩ := h
  have h1 : dr.cps.toList ∈ dressN.map (·.1) := by rw [← dressL_map]; exact List.mem_map_of_mem hd
  obtain ⟨q, hq, e⟩ := List.mem_map.mp h1
  refine ⟨q, hq, ?_⟩
  show (dr.cps ++ #[sgc b]).toList = _
  rw [Array.toList_append, e]
theorem Dr.len {s : Str} {b : Bool} (h : Dr s b) : s.length ≤ 10 := by
  obtain ⟨q, hq, e⟩ := h.list
  have h1 : ∀ q ∈ dressN, q.1.length ≤ 7 := by decide
  have h2 := h1 q hq
  have h3 := congrArg List.length e
  simp at h3
  show s.cps.size ≤ 10
  (first | lia | omega)
theorem DrAll.take {ss : List Str} {bs : List Bool} (h : DrAll ss bs) : ∀ n, DrAll (ss.take n) (bs.take n) := by
  induction h with
  | nil => intro n; simpa using DrAll.nil
  | cons a b ih => intro n; cases n with
    | zero => exact .nil
    | succ n => exact .cons a (ih n)

noncomputable def flatS (ss : List Str) : List Nat := ss.flatMap fun s => s.cps.toList
theorem catS_go : ∀ (ss : List Str) (a : Str), (ss.foldl (· ++ ·) a).cps.toList = a.cps.toList ++ flatS ss
  | [], a => by simp [flatS]
  | s :: r, a => by
    rw [List.foldl_cons, catS_go r]
    show (a.cps ++ s.cps).toList ++ _ = _
    rw [Array.toList_append, List.append_assoc]; rfl
theorem catS_list (ss : List Str) : (catS ss).cps.toList = flatS ss := by
  unfold catS
  rw [catS_go]; rfl
theorem flatS_len {ss : List Str} {bs : List Bool} (h : DrAll ss bs) : (flatS ss).length ≤ 8 * ss.length := by
  induction h with
  | nil => exact Nat.le_refl _
  | @cons s b ss bs a _ ih =>
    obtain ⟨q, hq, e⟩ := a.list
    have h1 : ∀ q ∈ dressN, q.1.length ≤ 7 := by decide
    have h2 := h1 q hq
    show (s.cps.toList ++ flatS ss).length ≤ _
    rw [List.length_append, e, List.length_append, List.length_singleton, List.length_cons]
    (first | lia | omega)

theorem Outs.len {l : List Nat} {bs : List Bool} (h : Outs l bs) : l.length ≤ 3 * bs.length := by
  induction h with
  | nil => exact Nat.le_refl _
  | cons hq _ ih =>
    have h1 : ∀ q ∈ outN, q.length ≤ 2 := by decide
    have h2 := h1 _ hq
    simp only [List.length_append, List.length_cons, List.length_nil]
    (first | lia | omega)
theorem escL_append : ∀ (a b : List Nat) (e : Bool), escL (a ++ b) e = escL b (escL a e)
  | [], _, _ => rfl
  | _ :: r, b, e => escL_append r b _
theorem Outs.esc {l : List Nat} {bs : List Bool} (h : Outs l bs) : escL l false = false := by
  induction h with
  | nil => rfl
  | @cons q l b bs hq _ ih =>
    rw [escL_append]
    have h1 : ∀ q ∈ outN, ∀ b, escL (q ++ [sgc b]) false = false := by decide
    rw [h1 _ hq, ih]
theorem DrAll.esc {ss : List Str} {bs : List Bool} (h : DrAll ss bs) : escL (flatS ss) false = false := by
  induction h with
  | nil => rfl
  | @cons s b ss bs a _ ih =>
    obtain ⟨q, hq, e⟩ := a.list
    show escL (s.cps.toList ++ flatS ss) false = false
    rw [e, escL_append]
    have h1 : ∀ q ∈ dressN, ∀ b, escL (q.1 ++ [sgc b]) false = false := by decide
    rw [h1 _ hq, ih]

/-- the tokens of a stretch that ends outside of an escape -/
theorem toks_append : ∀ (a b : List Nat) (p : Nat) (pv : Int) (e : Bool), escL a e = false → ∃ pv', toks (a ++ b) p pv e = toks a p pv e ++ toks b (p + a.length) pv' false
  | [], b, p, pv, e, h => by
    cases h
    exact ⟨pv, by simp [toks]⟩
  | c :: r, b, p, pv, e, h => by
    obtain ⟨pv', h'⟩ := toks_append r b (p + 1) p (escE c e) h
    refine ⟨pv', ?_⟩
    rw [List.cons_append, toks_cons, toks_cons, h', List.append_assoc, List.length_cons]
    have : p + 1 + r.length = p + (r.length + 1) := by (first | lia | omega)
    rw [this]
/-- how a stretch turns the count -/
noncomputable def chkL : List (Int × Str) → Option Int → Option Int
  | ts, some o => chkGo ts o
  | _, none => none
theorem chkGo_append : ∀ (a b : List (Int × Str)) (o : Int), chkGo (a ++ b) o = chkL b (chkGo a o)
  | [], _, _ => rfl
  | q :: r, b, o => by
    show (if eqS q.2 (Str.ofString "(") = true then chkGo (r ++ b) (o + 1) else if eqS q.2 (Str.ofString ")") = true then (if o - 1 < 0 then none else chkGo (r ++ b) (o - 1)) else chkGo (r ++ b) o) = chkL b (if eqS q.2 (Str.ofString "(") = true then chkGo r (o + 1) else if eqS q.2 (Str.ofString ")") = true then (if o - 1 < 0 then none else chkGo r (o - 1)) else chkGo r o)
    split
    · exact chkGo_append r b _
    · split
      · split
        · rfl
        · exact chkGo_append r b _
      · exact chkGo_append r b _
theorem chkGo_piece {q : List Nat} (hq : q ∈ outN) (b : Bool) (p : Nat) (pv : Int) (o : Int) : chkGo (toks (q ++ [sgc b]) p pv false) o = if b then some (o + 1) else if o - 1 < 0 then none else some (o - 1) := by
  simp only [outN, List.mem_cons, List.not_mem_nil, or_false] at hq
  rcases hq with rfl | rfl | rfl | rfl | rfl <;> cases b <;> rfl
theorem Outs.chk {l : List Nat} {bs : List Bool} (h : Outs l bs) : ∀ (p : Nat) (pv : Int) (n : Nat), chkGo (toks l p pv false) n = (balGo bs n).map fun (k : Nat) => (k : Int) := by
  induction h with
  | nil => intro p pv n; rfl
  | @cons q l b bs hq _ ih =>
    intro p pv n
    have h1 : ∀ q ∈ outN, ∀ b, escL (q ++ [sgc b]) false = false := by decide
    obtain ⟨pv', e⟩ := toks_append (q ++ [sgc b]) l p pv false (h1 _ hq b)
    rw [e, chkGo_append, chkGo_piece hq]
    cases b with
    | true => exact ih _ _ (n + 1)
    | false =>
      cases n with
      | zero => rfl
      | succ n =>
        have e1 : ¬ (((n + 1 : Nat) : Int) - 1 < 0) := by (first | lia | omega)
        have e2 : ((n + 1 : Nat) : Int) - 1 = (n : Int) := by (first | lia | omega)
        simp only [Bool.false_eq_true, if_false, if_neg e1]
        rw [e2]
        exact ih _ _ n

/-- a text without a quotation mark is left as it is -/
theorem DrAll.outs {ss : List Str} {bs : List Bool} (h : DrAll ss bs) (h34 : 34 ∉ flatS ss) : Outs (flatS ss) bs := by
  induction h with
  | nil => exact .nil
  | @cons s b ss bs a _ ih =>
    obtain ⟨q, hq, e⟩ := a.list
    have e2 : flatS (s :: ss) = q.1 ++ [sgc b] ++ flatS ss := by
      show s.cps.toList ++ flatS ss = _
      rw [e]
    rw [e2] at h34 ⊢
    have h1 : 34 ∉ q.1 := fun h => h34 (List.mem_append_left _ (List.mem_append_left _ h))
    have h2 : ∀ q ∈ dressN, 34 ∉ q.1 → q.1 ∈ outN := by decide
    exact .cons (h2 q hq h1) (ih fun h => h34 (List.mem_append_right _ h))

noncomputable abbrev flatR (res : List Str) : List Nat := flatS res
/-- the strip's way: start, the texts taken so far -/
theorem sStep_other (x : Str) (S : SS) (q : Int × Str) (h : (q.2.cps.toList == (Str.ofString "\"").cps.toList) = false) : sStep x S q = S := by
  unfold sStep; rw [h]; rfl
theorem sStep_open (x : Str) (st : Int) (res : List Str) (q : Int × Str) (h : (q.2.cps.toList == (Str.ofString "\"").cps.toList) = true) : sStep x (st, none, res) q = (st, some q.1, res) := by
  unfold sStep; rw [if_pos h]
theorem sStep_close (x : Str) (st o : Int) (res : List Str) (q : Int × Str) (h : (q.2.cps.toList == (Str.ofString "\"").cps.toList) = true) : sStep x (st, some o, res) q = (q.1 + 1, none, if (st != o) = true then res ++ [Txt.slice x (some st) (some o)] else res) := by
  unfold sStep; rw [if_pos h]
theorem slice_nat (x : Str) {a b : Nat} (h1 : a ≤ b) (h2 : b ≤ x.cps.toList.length) : (Txt.slice x (some (a : Int)) (some (b : Int))).cps.toList = (x.cps.toList.drop a).take (b - a) := by
  have := beq_iff_eq.mp (slice_closesL (x := x) (i := (a : Int)) (j := (b : Int)) (by (first | lia | omega)) (by (first | lia | omega)) (by simp [Str.length] at h2 ⊢; (first | lia | omega)))
  rw [this]
  have e1 : ((b : Int) - (a : Int)).toNat = b - a := by (first | lia | omega)
  simp [e1]
/-- where the strip stands behind the text `pre` -/
structure At0 (x : Str) (pre : List Nat) (o : List Nat) (S : SS) : Prop where
  ex : ∃ (st : Nat) (res : List Str), S = ((st : Int), none, res) ∧ st ≤ pre.length ∧ flatS res ++ pre.drop st = o
theorem At0.plain {x : Str} {pre o : List Nat} {S : SS} (h : At0 x pre o S) (q : List Nat) : At0 x (pre ++ q) (o ++ q) S := by
  obtain ⟨st, res, rfl, h1, h2⟩ := h
  refine ⟨st, res, rfl, by simp; (first | lia | omega), ?_⟩
  rw [List.drop_append_of_le_length h1, ← List.append_assoc, h2]
theorem flatS_append (a b : List Str) : flatS (a ++ b) = flatS a ++ flatS b := by simp [flatS]
/-- a stretch between quotation marks is taken out -/
theorem At0.quoted {x : Str} {pre o q m : List Nat} {rest : List Nat} {st : Nat} {res : List Str} (hx : x.cps.toList = pre ++ q ++ (34 :: m ++ [34]) ++ rest) (h1 : st ≤ pre.length) (h2 : flatS res ++ pre.drop st = o) :
    At0 x (pre ++ q ++ (34 :: m ++ [34])) (o ++ q) (((pre.length + q.length + m.length + 1 : Nat) : Int) + 1, none, if ((st : Int) != ((pre.length + q.length : Nat) : Int)) = true then res ++ [Txt.slice x (some (st : Int)) (some ((pre.length + q.length : Nat) : Int))] else res) := by
  refine ⟨pre.length + q.length + m.length + 2, _, rfl, by simp; (first | lia | omega), ?_⟩
  have e0 : (pre ++ q ++ (34 :: m ++ [34])).drop (pre.length + q.length + m.length + 2) = [] := by
    apply List.drop_eq_nil_of_le; simp; (first | lia | omega)
  rw [e0, List.append_nil]
  have hs : (Txt.slice x (some (st : Int)) (some ((pre.length + q.length : Nat) : Int))).cps.toList = pre.drop st ++ q := by
    rw [slice_nat x (by (first | lia | omega)) (by rw [hx]; simp), hx, List.append_assoc, List.drop_append_of_le_length (by simp; (first | lia | omega)), List.drop_append_of_le_length h1]
    have e : pre.length + q.length - st = (pre.drop st ++ q).length := by simp; (first | lia | omega)
    rw [e, List.take_left']
    rfl
  split
  · rw [flatS_append]
    show flatS res ++ ((Txt.slice x _ _).cps.toList ++ []) = _
    rw [hs, List.append_nil, ← List.append_assoc, h2]
  · rename_i hne
    have hst : st = pre.length + q.length := by
      simp at hne; (first | lia | omega)
    have : q = [] := by
      cases q with
      | nil => rfl
      | cons a r => simp at hst; (first | lia | omega)
    subst this
    have hst' : pre.drop st = [] := List.drop_eq_nil_of_le (by simp at hst; (first | lia | omega))
    rw [hst'] at h2
    simpa using h2
noncomputable def isQ (q : Int × Str) : Bool := q.2.cps.toList == (Str.ofString "\"").cps.toList
noncomputable def noQ (ts : List (Int × Str)) : Prop := ts.any isQ = false
theorem fold_other (x : Str) : ∀ (ts : List (Int × Str)) (S : SS), noQ ts → ts.foldl (sStep x) S = S
  | [], _, _ => rfl
  | q :: r, S, h => by
    unfold noQ at h
    rw [List.any_cons, Bool.or_eq_false_iff] at h
    rw [List.foldl_cons, sStep_other x S q h.1]
    exact fold_other x r S h.2
theorem piece_plain {q : List Nat × List Nat} (hq : q ∈ dressN) (h : 34 ∉ q.1 ∨ q.1 = [92, 34]) (b : Bool) (p : Nat) (pv : Int) : noQ (toks (q.1 ++ [sgc b]) p pv false) := by
  simp only [dressN, List.mem_cons, List.not_mem_nil, or_false] at hq
  rcases hq with rfl | rfl | rfl | rfl | rfl | rfl | rfl
  case inr.inr.inr.inl => rcases h with h | h; exact absurd (.head _) h; cases h
  case inr.inr.inr.inr.inr.inr => rcases h with h | h; exact absurd (by decide) h; cases h
  all_goals cases b <;> rfl
theorem piece_step {x : Str} {pre o : List Nat} {S : SS} (h : At0 x pre o S) {q : List Nat × List Nat} (hq : q ∈ dressN) (b : Bool) {rest : List Nat} (hx : x.cps.toList = pre ++ (q.1 ++ [sgc b]) ++ rest) (pv : Int) :
    At0 x (pre ++ (q.1 ++ [sgc b])) (o ++ (q.2 ++ [sgc b])) ((toks (q.1 ++ [sgc b]) pre.length pv false).foldl (sStep x) S) := by
  by_cases hp : 34 ∉ q.1 ∨ q.1 = [92, 34]
  · rw [fold_other x _ S (piece_plain hq hp b _ pv)]
    have e : q.2 = q.1 := by
      have : ∀ q ∈ dressN, (34 ∉ q.1 ∨ q.1 = [92, 34]) → q.2 = q.1 := by decide
      exact this q hq hp
    rw [e]
    exact h.plain _
  · obtain ⟨st, res, rfl, h1, h2⟩ := h
    have : ∀ q ∈ dressN, ¬ (34 ∉ q.1 ∨ q.1 = [92, 34]) → q = ([34, 40, 34], []) ∨ q = ([92, 92, 34, 41, 92, 34, 34], [92, 92]) := by decide
    rcases this q hq hp with rfl | rfl
    · have hx' : x.cps.toList = pre ++ [] ++ (34 :: [40] ++ [34]) ++ ([sgc b] ++ rest) := by rw [hx]; simp
      have H := (At0.quoted (q := []) (m := [40]) hx' h1 h2).plain [sgc b]
      have e1 : pre ++ [] ++ (34 :: [40] ++ [34]) ++ [sgc b] = pre ++ ([34, 40, 34] ++ [sgc b]) := by simp
      have e2 : o ++ [] ++ [sgc b] = o ++ ([] ++ [sgc b]) := by simp
      rw [e1, e2] at H
      have F : (toks ([34, 40, 34] ++ [sgc b]) pre.length pv false).foldl (sStep x) ((st : Int), none, res) = (((pre.length + 1 + 1 : Nat) : Int) + 1, none, if ((st : Int) != ((pre.length : Nat) : Int)) = true then res ++ [Txt.slice x (some (st : Int)) (some ((pre.length : Nat) : Int))] else res) := by
        have T : toks ([34, 40, 34] ++ [sgc b]) pre.length pv false = [(((pre.length : Nat) : Int), ⟨#[34]⟩), (((pre.length + 1 : Nat) : Int), ⟨#[40]⟩), (((pre.length + 1 + 1 : Nat) : Int), ⟨#[34]⟩), (((pre.length + 1 + 1 + 1 : Nat) : Int), ⟨#[sgc b]⟩)] := by cases b <;> rfl
        rw [T]
        simp only [List.foldl_cons, List.foldl_nil]
        rw [sStep_open x _ _ _ rfl, sStep_other x _ (_, ⟨#[40]⟩) rfl, sStep_close x _ _ _ _ rfl, sStep_other x _ (_, ⟨#[sgc b]⟩) (by cases b <;> rfl)]
      rw [F]
      exact H
    · have hx' : x.cps.toList = pre ++ [92, 92] ++ (34 :: [41, 92, 34] ++ [34]) ++ ([sgc b] ++ rest) := by rw [hx]; simp
      have H := (At0.quoted (q := [92, 92]) (m := [41, 92, 34]) hx' h1 h2).plain [sgc b]
      have e1 : pre ++ [92, 92] ++ (34 :: [41, 92, 34] ++ [34]) ++ [sgc b] = pre ++ ([92, 92, 34, 41, 92, 34, 34] ++ [sgc b]) := by simp
      have e2 : o ++ [92, 92] ++ [sgc b] = o ++ ([92, 92] ++ [sgc b]) := by simp
      rw [e1, e2] at H
      have F : (toks ([92, 92, 34, 41, 92, 34, 34] ++ [sgc b]) pre.length pv false).foldl (sStep x) ((st : Int), none, res) = (((pre.length + 6 : Nat) : Int) + 1, none, if ((st : Int) != ((pre.length + 2 : Nat) : Int)) = true then res ++ [Txt.slice x (some (st : Int)) (some ((pre.length + 2 : Nat) : Int))] else res) := by
        have T : toks ([92, 92, 34, 41, 92, 34, 34] ++ [sgc b]) pre.length pv false = [(((pre.length + 1 : Nat) : Int), ⟨#[92, 92]⟩), (((pre.length + 2 : Nat) : Int), ⟨#[34]⟩), (((pre.length + 3 : Nat) : Int), ⟨#[41]⟩), (((pre.length + 5 : Nat) : Int), ⟨#[92, 34]⟩), (((pre.length + 6 : Nat) : Int), ⟨#[34]⟩), (((pre.length + 7 : Nat) : Int), ⟨#[sgc b]⟩)] := by cases b <;> rfl
        rw [T]
        simp only [List.foldl_cons, List.foldl_nil]
        rw [sStep_other x _ (_, ⟨#[92, 92]⟩) rfl, sStep_open x _ _ _ rfl, sStep_other x _ (_, ⟨#[41]⟩) rfl, sStep_other x _ (_, ⟨#[92, 34]⟩) rfl, sStep_close x _ _ _ _ rfl, sStep_other x _ (_, ⟨#[sgc b]⟩) (by cases b <;> rfl)]
      rw [F]
      exact H
theorem dress_snd : ∀ q ∈ dressN, q.2 ∈ outN := by decide
theorem dress_esc : ∀ q ∈ dressN, ∀ b, escL (q.1 ++ [sgc b]) false = false := by decide
theorem strip_go (x : Str) {ss : List Str} {bs : List Bool} (h : DrAll ss bs) : ∀ (pre o : List Nat) (S : SS) (pv : Int), At0 x pre o S → x.cps.toList = pre ++ flatS ss →
    ∃ l, Outs l bs ∧ At0 x (pre ++ flatS ss) (o ++ l) ((toks (flatS ss) pre.length pv false).foldl (sStep x) S) := by
  induction h with
  | nil =>
    intro pre o S pv hA hx
    exact ⟨[], .nil, by simpa [flatS, toks] using hA⟩
  | @cons s b ss bs a _ ih =>
    intro pre o S pv hA hx
    obtain ⟨q, hq, e⟩ := a.list
    have e2 : flatS (s :: ss) = (q.1 ++ [sgc b]) ++ flatS ss := by
      show s.cps.toList ++ flatS ss = _
      rw [e]
    rw [e2] at hx ⊢
    rw [← List.append_assoc] at hx
    obtain ⟨pv', et⟩ := toks_append (q.1 ++ [sgc b]) (flatS ss) pre.length pv false (dress_esc q hq b)
    obtain ⟨l, hl, hA'⟩ := ih (pre ++ (q.1 ++ [sgc b])) _ _ pv' (piece_step hA hq b hx pv) hx
    refine ⟨q.2 ++ [sgc b] ++ l, .cons (dress_snd q hq) hl, ?_⟩
    rw [et, List.foldl_append]
    rw [List.length_append, List.append_assoc pre, List.append_assoc o] at hA'
    exact hA'
theorem join_flat (ys : List Str) : (Txt.join (Str.ofString "") ys).cps.toList = flatS ys := by
  have e : Str.ofString "" = ⟨#[]⟩ := by decide
  rw [e]
  show (Builtin.Str.glued _ _).cps.toList = _
  rw [StrLaws.glued_eq_join]
  induction ys with
  | nil => rfl
  | cons y r ih =>
    cases r with
    | nil => simp [Str.join, flatS]
    | cons z r =>
      show (y.cps ++ #[] ++ (Str.join ⟨#[]⟩ (z :: r)).cps).toList = y.cps.toList ++ flatS (z :: r)
      rw [Array.toList_append, ih]
      simp
theorem flatS_sum (ys : List Str) : (ys.map (·.length)).sum = (flatS ys).length := by
  induction ys with
  | nil => rfl
  | cons y r ih =>
    show y.length + (r.map (·.length)).sum = (y.cps.toList ++ flatS r).length
    rw [List.length_append, ih, Array.length_toList]; rfl
theorem stripRes_flat {ss : List Str} {bs : List Bool} (h : DrAll ss bs) {x : Str} (hx : x.cps.toList = flatS ss) : Outs (flatS (stripRes x)) bs := by
  obtain ⟨l, hl, st, res, e, h1, h2⟩ := strip_go x h [] [] (0, none, []) 0 ⟨0, [], rfl, Nat.le_refl _, rfl⟩ (by simpa using hx)
  simp only [List.nil_append, List.length_nil] at e h1 h2
  have e' : stripEnd x = ((st : Int), none, res) := by
    unfold stripEnd
    rw [hx]; exact e
  have hlen : x.length = (flatS ss).length := by rw [← hx, Array.length_toList]; rfl
  have : flatS (stripRes x) = l := by
    unfold stripRes
    rw [e']
    dsimp only
    split
    · rename_i hlt
      rw [flatS_append, slice_from_eq (b := (x.length : Int)) (by (first | lia | omega)) (by (first | lia | omega)) rfl]
      have e3 : ((x.length : Int) - (st : Int)).toNat = (flatS ss).length - st := by (first | lia | omega)
      rw [← h2]
      simp only [flatS, List.flatMap_cons, List.flatMap_nil, List.append_nil, Int.toNat_natCast, e3, hx]
      congr 1
      rw [List.take_of_length_le (by simp)]
    · rename_i hlt
      have : (flatS ss).drop st = [] := List.drop_eq_nil_of_le (by (first | lia | omega))
      rw [this, List.append_nil] at h2
      exact h2
  rw [this]; exact hl

theorem dressed {ss : List Str} {bs : List Bool} (h : DrAll ss bs) (hl : ss.length ≤ 100) : (catS ss).cps.size < 1000 ∧ escL (catS ss).cps.toList false = false ∧ ((stripRes (catS ss)).map (·.length)).sum ≤ 16777216 ∧ (stripF (catS ss)).cps.size < 1000 ∧ escL (stripF (catS ss)).cps.toList false = false ∧ chkF (catS ss) = bal bs := by
  have hx := catS_list ss
  generalize hX : catS ss = x at hx ⊢
  have hO := stripRes_flat h hx
  have hlb : ss.length = bs.length := by
    clear hl hx hX hO x
    induction h with
    | nil => rfl
    | cons _ _ ih => simp [ih]
  have hF : Outs (stripF x).cps.toList bs := by
    unfold stripF
    have eq : Str.ofString "\"" = ⟨#[34]⟩ := by decide
    have hc : Txt.contains x (Str.ofString "\"") = decide (34 ∈ x.cps.toList) := by rw [eq]; exact StrLaws.found_one x 34
    rw [hc]
    by_cases h34 : 34 ∈ x.cps.toList
    · rw [if_neg (by simpa using h34), join_flat]; exact hO
    · rw [if_pos (by simpa using h34), hx]
      exact h.outs (by rw [← hx]; exact h34)
  have l1 := flatS_len h
  have l2 := hO.len
  have l3 := hF.len
  refine ⟨?_, ?_, ?_, ?_, hF.esc, ?_⟩
  · rw [← Array.length_toList, hx]; (first | lia | omega)
  · rw [hx]; exact h.esc
  · rw [flatS_sum]; (first | lia | omega)
  · rw [← Array.length_toList]; (first | lia | omega)
  · unfold chkF bal
    have := hF.chk 0 0 0
    rw [show ((0 : Nat) : Int) = 0 from rfl] at this
    rw [this]
    cases balGo bs 0 with
    | none => rfl
    | some n => cases n <;> rfl

section
variable {G : Gd} {cs : Scope} {d : Nat} {m m₁ m₂ m' : Mem} {H H₁ H₂ H₃ H' : Hp} {pos : Pos}

inductive PcsS (H : Hp) : List PV → List (Int × Bool) → List Str → Prop
  | nil : PcsS H [] [] []
  | cons {i : Nat} {k : Int} {s : Str} {b : Bool} {xs : List PV} {ps : List (Int × Bool)} {ss : List Str} : H[i]? = some [.int k, .str s] → Dr s b → PcsS H xs ps ss → PcsS H (.ref i :: xs) ((k, b) :: ps) (s :: ss)
noncomputable def Pcs (H : Hp) (xs : List PV) (ps : List (Int × Bool)) : Prop := ∃ ss, PcsS H xs ps ss
theorem PcsS.drAll {xs : List PV} {ps : List (Int × Bool)} {ss : List Str} (h : PcsS H xs ps ss) : DrAll ss (ps.map (·.2)) := by
  induction h with
  | nil => exact .nil
  | cons _ d _ ih => exact .cons d ih
theorem PcsS.len {xs : List PV} {ps : List (Int × Bool)} {ss : List Str} (h : PcsS H xs ps ss) : xs.length = ps.length ∧ ss.length = ps.length := by
  induction h with
  | nil => exact ⟨rfl, rfl⟩
  | cons _ _ _ ih => simp [ih.1, ih.2]
theorem PcsS.get {xs : List PV} {ps : List (Int × Bool)} {ss : List Str} (h : PcsS H xs ps ss) {q : Nat} {x : PV} (e : xs[q]? = some x) : ∃ i p s, x = .ref i ∧ ps[q]? = some p ∧ ss[q]? = some s ∧ H[i]? = some [.int p.1, .str s] ∧ Dr s p.2 := by
  induction h generalizing q with
  | nil => cases e
  | cons a b _ ih =>
    cases q with
    | zero => simp at e; subst e; exact ⟨_, _, _, rfl, rfl, rfl, a, b⟩
    | succ q => simpa using ih (by simpa using e)
theorem PcsS.mono {xs : List PV} {ps : List (Int × Bool)} {ss : List Str} (h : PcsS H xs ps ss) (hk : ∀ (i : Nat) k s, H[i]? = some [.int k, .str s] → H'[i]? = some [.int k, .str s]) : PcsS H' xs ps ss := by
  induction h with
  | nil => exact .nil
  | cons a b _ ih => exact .cons (hk _ _ _ a) b ih
theorem PcsS.append {xs ys : List PV} {ps qs : List (Int × Bool)} {ss ts : List Str} (h : PcsS H xs ps ss) (h' : PcsS H ys qs ts) : PcsS H (xs ++ ys) (ps ++ qs) (ss ++ ts) := by
  induction h with
  | nil => exact h'
  | cons a b _ ih => exact .cons a b ih
theorem PcsS.drop {xs : List PV} {ps : List (Int × Bool)} {ss : List Str} (h : PcsS H xs ps ss) : ∀ n, PcsS H (xs.drop n) (ps.drop n) (ss.drop n) := by
  induction h with
  | nil => intro n; simpa using PcsS.nil
  | cons a b c ih => intro n; cases n with
    | zero => exact .cons a b c
    | succ n => exact ih n
theorem PcsS.take {xs : List PV} {ps : List (Int × Bool)} {ss : List Str} (h : PcsS H xs ps ss) : ∀ n, PcsS H (xs.take n) (ps.take n) (ss.take n) := by
  induction h with
  | nil => intro n; simpa using PcsS.nil
  | cons a b c ih => intro n; cases n with
    | zero => exact .nil
    | succ n => exact .cons a b (ih n)
theorem Pcs.mono {xs : List PV} {ps : List (Int × Bool)} (h : Pcs H xs ps) (hk : ∀ (i : Nat) k s, H[i]? = some [.int k, .str s] → H'[i]? = some [.int k, .str s]) : Pcs H' xs ps := let ⟨ss, h⟩ := h; ⟨ss, h.mono hk⟩
theorem Pcs.pre {xs : List PV} {ps : List (Int × Bool)} (h : Pcs H xs ps) (hp : H <+: H') : Pcs H' xs ps := h.mono fun _ _ _ e => prefix_get hp e
theorem Pcs.ne {xs : List PV} {ps : List (Int × Bool)} (h : Pcs H xs ps) (k : Int) (s : Str) : xs ≠ [.int k, .str s] := by
  rintro rfl
  obtain ⟨ss, h⟩ := h
  cases h

theorem catS_len {ss : List Str} {bs : List Bool} (h : DrAll ss bs) (hl : ss.length ≤ 100) : (catS ss).length ≤ 1000 := Nat.le_of_lt (dressed h hl).1
set_option maxRecDepth 100000 in
theorem taken_ok (g : GOK G) {n : Nat} {xs : List PV} {ps : List (Int × Bool)} (hx : H[n]? = some xs) (hp : Pcs H xs ps) (hl : ps.length ≤ 100) : ∃ H', Cl G (d + 5) (.ref 134) [.ref n] H (.bool (bal (ps.map (·.2)))) H' ∧ H <+: H' := by
  have D := DefOK.of g (f := 134) (ps := ["pieces"]) (rest := [("text", .local), ("piece", .local), ("concat", .globalImplicit), ("_check_parenthesis", .globalImplicit)]) rfl rfl rfl rfl rfl rfl rfl rfl rfl rfl (by decide) (by decide) (by decide)
  have hc : G.mg (Str.ofString "concat") = some (.ref 99) := mg_of g.X G.g rfl
  have hk : G.mg (Str.ofString "_check_parenthesis") = some (.ref 35) := mg_of g.X G.g rfl
  have o99 := g.X 99 _ rfl
  have o35 := g.X 35 _ rfl
  have hsl : sizeLine = 16777216 := by decide +kernel
  obtain ⟨ss, hps⟩ := hp
  have hlen := hps.len
  obtain ⟨z1, z2, z3, z4, z5, z6⟩ := dressed hps.drAll (by (first | lia | omega))
  obtain ⟨H', hpre, hck⟩ := check_ok (d := d) (H := H) g z1 z2 z3 z4 z5
  rw [z6] at hck
  have main := Cl.defP (G := G) (d := d + 4) (H := H) (args := [.ref n]) (args' := [.ref n]) (P := fun v H'' => v = .bool (bal (ps.map (·.2))) ∧ H'' = H') D rfl (by walk_at "ux bind1") ?_
  · obtain ⟨v, H'', h1, rfl, rfl⟩ := main
    exact ⟨_, h1, hpre⟩
  refine ExP.cons (Es.assign Ev.const_str (by walk_at "ux put")) ?_
  refine ExP.for (Itb.list (Ev.local (v := .ref n) (by walk_at "ux at")) hx) (fun k m H'' => H'' = H ∧ ∃ o, m = [some (.ref n), some (.str (catS (ss.take k))), o, none, none]) ⟨rfl, none, rfl⟩ (fun k m H h => by rw [h.1]; exact hx) (fun k P m H₂ hget hi => ?_) (fun m' H₂ hi => ?_)
  · obtain ⟨rfl, o, rfl⟩ := hi
    rw [List.getElem?_map] at hget
    obtain ⟨x, hx', rfl⟩ := Option.map_eq_some_iff.mp hget
    obtain ⟨i, p, s, rfl, hp1, hs1, hi1, hd1⟩ := hps.get hx'
    refine ⟨_, Asg.name (by walk_at "ux put"), ?_⟩
    have h1 := catS_len (hps.drAll.take k) (by rw [List.length_take]; (first | lia | omega))
    have h2 := hd1.len
    refine ExP.cons (Es.assign (v := .str (catS (ss.take k) ++ s)) (Ev.callF (Ev.global hc (by walk_at "ux mem")) o99 rfl (Evs.cons (Ev.local (v := .str (catS (ss.take k))) (by walk_at "ux at")) (Evs.cons (Ev.item (i := 1) (v := .str s) (Ev.local (v := .ref i) (by walk_at "ux at")) Ev.const_int hi1 (by decide) (by decide) rfl) Evs.nil)) (concat_ok g (by rw [hsl]; (first | lia | omega)))) (by walk_at "ux put")) (ExP.nil ⟨rfl, rfl, some (.ref i), ?_⟩)
    have e : catS (ss.take (k + 1)) = catS (ss.take k) ++ s := by
      unfold catS
      rw [List.take_add_one, hs1, List.foldl_append]; rfl
    rw [e]
  · obtain ⟨rfl, o, rfl⟩ := hi
    have e : ss.take (xs.map ItP.of).length = ss := by rw [List.length_map]; exact List.take_of_length_le (by (first | lia | omega))
    rw [e]
    exact ExP.ret (Ev.callF (Ev.global hk (by walk_at "ux mem")) o35 rfl (Evs.cons (Ev.local (v := .str (catS ss)) (by walk_at "ux at")) Evs.nil) hck) ⟨_, rfl, rfl, rfl⟩
end

section
variable {G : Gd} {cs : Scope} {d : Nat} {m m₁ m₂ m' : Mem} {H H₁ H₂ H₃ H' : Hp} {pos : Pos}

noncomputable def sgn (k : Nat) (l r : Int) : List (Int × Bool) := List.replicate (r - l).toNat ((k : Int), true) ++ List.replicate (l - r).toNat ((k : Int), false)
noncomputable def signsUp (L R : List Int) (n : Nat) : List (Int × Bool) := (List.range n).flatMap fun k => sgn k (L.getD k 0) (R.getD k 0)
noncomputable def signs (L R : List Int) : List (Int × Bool) := signsUp L R L.length
theorem signsUp_succ (L R : List Int) (n : Nat) : signsUp L R (n + 1) = signsUp L R n ++ sgn n (L.getD n 0) (R.getD n 0) := by
  unfold signsUp
  rw [List.range_succ, List.flatMap_append]
  simp
theorem signsUp_mono (L R : List Int) {k n : Nat} (h : k ≤ n) : (signsUp L R k).length ≤ (signsUp L R n).length := by
  induction h with
  | refl => exact Nat.le_refl _
  | step _ ih => rw [signsUp_succ, List.length_append]; (first | lia | omega)
theorem foldl_reps (c : Nat) : ∀ (k : Nat) (acc : Array Nat), ((List.replicate k #[c]).foldl (· ++ ·) acc).toList = acc.toList ++ List.replicate k c
  | 0, acc => by simp
  | k + 1, acc => by
    rw [List.replicate_succ, List.foldl_cons, foldl_reps c k, Array.toList_append]
    simp [List.replicate_succ]
theorem mul_chars (c : Nat) (n : Int) : (Txt.mul ⟨#[c]⟩ n).cps.toList = List.replicate n.toNat c := by
  unfold Txt.mul
  by_cases h1 : n < 1
  · rw [if_pos h1]
    have : n.toNat = 0 := by (first | lia | omega)
    rw [this]; rfl
  · rw [if_neg h1]
    split
    · rename_i h
      have hn : n = 1 := by
        simp [Str.length] at h
        exact h
      subst hn; rfl
    · show ((List.replicate n.toNat #[c]).foldl (· ++ ·) #[]).toList = _
      rw [foldl_reps]; simp
theorem mul_len (c : Nat) (n : Int) : (Txt.mul ⟨#[c]⟩ n).length = n.toNat := by
  have := congrArg List.length (mul_chars c n)
  simpa [Str.length] using this
theorem sgn_fst {k : Nat} {l r : Int} {q : Nat} {p : Int × Bool} (h : (sgn k l r)[q]? = some p) : p.1 = k := by
  have hm := List.mem_of_getElem? h
  unfold sgn at hm
  rcases List.mem_append.mp hm with h | h
  · rw [(List.mem_replicate.mp h).2]
  · rw [(List.mem_replicate.mp h).2]
theorem pre_set {α : Type} {l l' : List α} {n : Nat} {a : α} (h : l <+: l') (hn : l.length ≤ n) : l <+: l'.set n a := by
  obtain ⟨r, rfl⟩ := h
  rw [List.set_append_right _ _ hn]
  exact List.prefix_append _ _
theorem text_chars (k : Nat) (l r : Int) : (Txt.mul (Str.ofString "(") (r - l) ++ Txt.mul (Str.ofString ")") (l - r)).cps.toList = (sgn k l r).map fun p => sgc p.2 := by
  have e1 : Str.ofString "(" = ⟨#[40]⟩ := by decide
  have e2 : Str.ofString ")" = ⟨#[41]⟩ := by decide
  rw [e1, e2]
  show ((Txt.mul ⟨#[40]⟩ (r - l)).cps ++ (Txt.mul ⟨#[41]⟩ (l - r)).cps).toList = _
  rw [Array.toList_append, mul_chars, mul_chars]
  unfold sgn
  rw [List.map_append, List.map_replicate, List.map_replicate]
  rfl
theorem dress_get (i : Int) (h0 : 0 ≤ i) (h7 : i < 7) : ∃ dr ∈ dressL, (dressL.map PV.str)[i.toNat]? = some (.str dr) := by
  have : i.toNat < dressL.length := by show i.toNat < 7; (first | lia | omega)
  exact ⟨dressL[i.toNat], List.getElem_mem _, by rw [List.getElem?_map, List.getElem?_eq_getElem this]; rfl⟩
theorem dress_len {dr : Str} (h : dr ∈ dressL) : dr.length ≤ 8 := by
  have : ∀ x ∈ dressL, x.length ≤ 8 := by decide
  exact this dr h

set_option maxRecDepth 100000 in
theorem pieces_ok (g : GOK G) {i j : Nat} {L R : List Int} {total : Int} (hi : H[i]? = some (L.map PV.int)) (hj : H[j]? = some (R.map PV.int)) (hlen : L.length = R.length) (hL : L.length ≤ 100) (hs : (signs L R).length ≤ 100) (hv : ∀ k : Nat, ((L.getD k 0 - R.getD k 0).natAbs ≤ 100)) :
    ∃ v H', Cl G (d + 2) (.ref 127) [.ref i, .ref j, .int total] H v H' ∧ H <+: H' ∧ ∃ n xs, v = .ref n ∧ H'[n]? = some xs ∧ Pcs H' xs (signs L R) := by
  have D := DefOK.of g (f := 127) (ps := ["low", "high", "total"]) (rest := [("dresses", .local), ("pieces", .local), ("k", .local), ("sign", .local), ("range", .globalImplicit), ("len", .globalImplicit), ("mul", .globalImplicit), ("sub", .globalImplicit)]) rfl rfl rfl rfl rfl rfl rfl rfl rfl rfl (by decide) (by decide) (by decide)
  have hr : G.mg (Str.ofString "range") = none := mg_none_of g.X G.g rfl
  have hln : G.mg (Str.ofString "len") = none := mg_none_of g.X G.g rfl
  have hm : G.mg (Str.ofString "mul") = some (.ref 85) := mg_of g.X G.g rfl
  have hsb : G.mg (Str.ofString "sub") = some (.ref 92) := mg_of g.X G.g rfl
  have o85 := g.X 85 _ rfl
  have o92 := g.X 92 _ rfl
  have hsl : sizeLine = 16777216 := by decide +kernel
  refine Cl.defP (P := fun v H' => H <+: H' ∧ ∃ n xs, v = .ref n ∧ H'[n]? = some xs ∧ Pcs H' xs (signs L R)) (args' := [.ref i, .ref j, .int total]) D rfl (by walk_at "ux bind3") ?_
  refine ExP.cons (Es.assign (v := .ref H.length) (Ev.list (vs := dressL.map PV.str) (Evs.cons Ev.const_str (Evs.cons Ev.const_str (Evs.cons Ev.const_str (Evs.cons Ev.const_str (Evs.cons Ev.const_str (Evs.cons Ev.const_str (Evs.cons Ev.const_str Evs.nil))))))) (by rw [hsl]; decide)) (by walk_at "ux put")) ?_
  refine ExP.cons (Es.assign (v := .ref (H.length + 1)) ((Ev.list Evs.nil (by simp)).of (by simp)) (by walk_at "ux put")) ?_
  have hiH : (H ++ [dressL.map PV.str] ++ [[]])[i]? = some (L.map PV.int) := prefix_get ((List.prefix_append _ _).trans (List.prefix_append _ _)) hi
  let Inv : List (Int × Bool) → Option PV → Mem → Hp → Prop := fun ps ok m H' => ∃ xs o, m = [some (.ref i), some (.ref j), some (.int total), some (.ref H.length), some (.ref (H.length + 1)), ok, o, none, none, none, none] ∧ H <+: H' ∧ H'[H.length]? = some (dressL.map PV.str) ∧ H'[H.length + 1]? = some xs ∧ Pcs H' xs ps
  refine ExP.for (Itb.range1 (n := L.length) hr (by walk_at "ux mem") ((Ev.callB (Ev.builtin hln PySem.boot_len (by walk_at "ux mem")) (Evs.cons (Ev.local (v := .ref i) (by walk_at "ux at")) Evs.nil) (cl_len hiH (by rw [List.length_map]; (first | lia | omega)))).of (by rw [List.length_map])) (by (first | lia | omega)))
    (fun k m H' => ∃ ok, Inv (signsUp L R k) ok m H') ⟨none, [], none, rfl, (List.prefix_append _ _).trans (List.prefix_append _ _), by simp, by simp, ⟨[], .nil⟩⟩ (fun _ _ _ _ => trivial) (fun k P m H₁ hget hI => ?_) (fun m' H₂ hI => ?_)
  · obtain ⟨ok, xs, o, rfl, hpre, hD, hP, hPc⟩ := hI
    rw [List.getElem?_map] at hget
    obtain ⟨kk, hk', rfl⟩ := Option.map_eq_some_iff.mp hget
    unfold rng at hk'
    rw [List.getElem?_map] at hk'
    obtain ⟨k2, hk2, rfl⟩ := Option.map_eq_some_iff.mp hk'
    have hkk : k2 = k ∧ k < L.length := by
      obtain ⟨h1, h2⟩ := List.getElem?_eq_some_iff.mp hk2
      simp at h1 h2
      (first | lia | omega)
    obtain ⟨rfl, hkL⟩ := hkk
    have ek : (0 : Int) + (k2 : Int) * 1 = k2 := by (first | lia | omega)
    rw [ek]
    refine ⟨_, Asg.name (by walk_at "ux put"), ?_⟩
    have hi1 := prefix_get hpre hi
    have hj1 := prefix_get hpre hj
    have gL : (L.map PV.int)[((k2 : Int)).toNat]? = some (.int (L.getD k2 0)) := by
      rw [List.getElem?_map, Int.toNat_natCast, List.getElem?_eq_getElem hkL, List.getD_eq_getElem?_getD, List.getElem?_eq_getElem hkL]; rfl
    have hkR : k2 < R.length := by (first | lia | omega)
    have gR' : (R.map PV.int)[((k2 : Int)).toNat]? = some (.int (R.getD k2 0)) := by
      rw [List.getElem?_map, Int.toNat_natCast, List.getElem?_eq_getElem hkR, List.getD_eq_getElem?_getD, List.getElem?_eq_getElem hkR]; rfl
    have hv' := hv k2
    have hm1 : MulOk (Str.ofString "(") (R.getD k2 0 - L.getD k2 0) := mulOk_of 1 1000 (by decide) (by (first | lia | omega)) (by (first | lia | omega)) (by decide) (by decide)
    have hm2 : MulOk (Str.ofString ")") (L.getD k2 0 - R.getD k2 0) := mulOk_of 1 1000 (by decide) (by (first | lia | omega)) (by (first | lia | omega)) (by decide) (by decide)
    have hchars := text_chars k2 (L.getD k2 0) (R.getD k2 0)
    refine ExP.for (Itb.str (x := Txt.mul (Str.ofString "(") (R.getD k2 0 - L.getD k2 0) ++ Txt.mul (Str.ofString ")") (L.getD k2 0 - R.getD k2 0)) (Ev.bin
      (Ev.callF (Ev.global hm (by walk_at "ux mem")) o85 rfl (Evs.cons Ev.const_str (Evs.cons (Ev.callF (Ev.global hsb (by walk_at "ux mem")) o92 rfl (Evs.cons (Ev.item (Ev.local (v := .ref j) (by walk_at "ux at")) (Ev.local (v := .int k2) (by walk_at "ux at")) hj1 (by (first | lia | omega)) (by (first | lia | omega)) gR') (Evs.cons (Ev.item (Ev.local (v := .ref i) (by walk_at "ux at")) (Ev.local (v := .int k2) (by walk_at "ux at")) hi1 (by (first | lia | omega)) (by (first | lia | omega)) gL) Evs.nil)) (sub_ok g)) Evs.nil)) (rep_ok g hm1))
      (Ev.callF (Ev.global hm (by walk_at "ux mem")) o85 rfl (Evs.cons Ev.const_str (Evs.cons (Ev.callF (Ev.global hsb (by walk_at "ux mem")) o92 rfl (Evs.cons (Ev.item (Ev.local (v := .ref i) (by walk_at "ux at")) (Ev.local (v := .int k2) (by walk_at "ux at")) hi1 (by (first | lia | omega)) (by (first | lia | omega)) gL) (Evs.cons (Ev.item (Ev.local (v := .ref j) (by walk_at "ux at")) (Ev.local (v := .int k2) (by walk_at "ux at")) hj1 (by (first | lia | omega)) (by (first | lia | omega)) gR') Evs.nil)) (sub_ok g)) Evs.nil)) (rep_ok g hm2))
      (op_cat ?catlen)))
      (fun q m H' => Inv (signsUp L R k2 ++ (sgn k2 (L.getD k2 0) (R.getD k2 0)).take q) (some (.int k2)) m H') ⟨xs, o, rfl, hpre, hD, hP, by simpa using hPc⟩ (fun _ _ _ _ => trivial) (fun q P m H₂ hget hI => ?_) (fun m' H₂ hI => ?_)
    case catlen =>
      have e1 : Str.ofString "(" = ⟨#[40]⟩ := by decide
      have e2 : Str.ofString ")" = ⟨#[41]⟩ := by decide
      rw [e1, e2, mul_len, mul_len, hsl]; (first | lia | omega)
    · rw [hchars, List.map_map, List.getElem?_map] at hget
      obtain ⟨p, hp, rfl⟩ := Option.map_eq_some_iff.mp hget
      obtain ⟨xs2, o2, rfl, hpre2, hD2, hP2, hPc2⟩ := hI
      refine ⟨_, Asg.name (v := .str ⟨#[sgc p.2]⟩) (by walk_at "ux put"), ?_⟩
      have hmod : (total + (xs2.length : Int)).fmod 7 = (total + (xs2.length : Int)) % 7 := Int.fmod_eq_emod_of_nonneg _ (by decide)
      have h0 : 0 ≤ (total + (xs2.length : Int)).fmod 7 := by rw [hmod]; (first | lia | omega)
      have h7 : (total + (xs2.length : Int)).fmod 7 < 7 := by rw [hmod]; (first | lia | omega)
      obtain ⟨dr, hdr, hget7⟩ := dress_get _ h0 h7
      have hdl := dress_len hdr
      have hxl : xs2.length ≤ 200 := by
        obtain ⟨ss, hh⟩ := hPc2
        rw [hh.len.1, List.length_append]
        have hle : (signsUp L R k2 ++ (sgn k2 (L.getD k2 0) (R.getD k2 0)).take q).length ≤ (signs L R).length + 100 := by
          have h1 := signsUp_mono L R (Nat.le_of_lt hkL)
          have h2 : ((sgn k2 (L.getD k2 0) (R.getD k2 0)).take q).length ≤ 100 := by
            rw [List.length_take]
            have : (sgn k2 (L.getD k2 0) (R.getD k2 0)).length ≤ 100 := by
              unfold sgn
              rw [List.length_append, List.length_replicate, List.length_replicate]
              (first | lia | omega)
            (first | lia | omega)
          rw [List.length_append]
          exact Nat.add_le_add h1 h2
        rw [List.length_append] at hle
        (first | lia | omega)
      have hPlt : H.length + 1 < H₂.length := (List.getElem?_eq_some_iff.mp hP2).1
      have hap := cl_append (G := G) (d := d + 1) (H := H₂ ++ [[.int k2, .str (dr ++ ⟨#[sgc p.2]⟩)]]) (n := H.length + 1) (v := .ref H₂.length) (prefix_get (List.prefix_append _ _) hP2) (by rw [hsl]; (first | lia | omega))
      refine ExP.cons (Es.expr (Ev.meth (Ev.local (v := .ref (H.length + 1)) (by walk_at "ux at")) hP2 PySem.F.slot_list_append rfl (Evs.cons (Ev.list (vs := [.int k2, .str (dr ++ ⟨#[sgc p.2]⟩)]) (Evs.cons (Ev.local (v := .int k2) (by walk_at "ux at")) (Evs.cons (Ev.bin (Ev.item (v := .str dr) (Ev.local (v := .ref H.length) (by walk_at "ux at"))
        (Ev.bin (Ev.bin (Ev.local (v := .int total) (by walk_at "ux at")) (Ev.callB (Ev.builtin hln PySem.boot_len (by walk_at "ux mem")) (Evs.cons (Ev.local (v := .ref (H.length + 1)) (by walk_at "ux at")) Evs.nil) (cl_len hP2 (by (first | lia | omega)))) op_add) Ev.const_int (op_mod (by decide))) hD2 h0 (by (first | lia | omega)) hget7) (Ev.local (v := .str ⟨#[sgc p.2]⟩) (by walk_at "ux at")) (op_cat (by
          rw [hsl]
          show dr.length + 1 ≤ _
          (first | lia | omega)))) Evs.nil)) (by rw [hsl]; exact (by decide : 2 ≤ 16777216))) Evs.nil) hap (by rfl) _ (fun env => rfl))) (ExP.nil ⟨rfl, ?_⟩)
      refine ⟨xs2 ++ [.ref H₂.length], _, rfl, pre_set (hpre2.trans (List.prefix_append _ _)) (Nat.le_succ _), ?_, ?_, ?_⟩
      · rw [List.getElem?_set_ne (by (first | lia | omega))]
        exact prefix_get (List.prefix_append _ _) hD2
      · rw [List.getElem?_set_self (by rw [List.length_append]; (first | lia | omega))]
      · obtain ⟨ss, hh⟩ := hPc2
        have hne := Pcs.ne ⟨ss, hh⟩
        have hh' : PcsS ((H₂ ++ [[PV.int k2, PV.str (dr ++ ⟨#[sgc p.2]⟩)]]).set (H.length + 1) (xs2 ++ [PV.ref H₂.length])) xs2 _ ss := hh.mono fun i k s e => by
          have hi : H.length + 1 ≠ i := fun q => by
            subst q
            rw [hP2] at e
            exact hne k s (Option.some.inj e)
          rw [List.getElem?_set_ne hi]
          exact prefix_get (List.prefix_append _ _) e
        have hnew : PcsS ((H₂ ++ [[PV.int k2, PV.str (dr ++ ⟨#[sgc p.2]⟩)]]).set (H.length + 1) (xs2 ++ [PV.ref H₂.length])) [PV.ref H₂.length] [p] [dr ++ ⟨#[sgc p.2]⟩] := by
          have e1 := sgn_fst hp
          obtain ⟨pk, pb⟩ := p
          dsimp only at e1
          subst e1
          refine .cons ?_ ⟨dr, hdr, rfl⟩ .nil
          rw [List.getElem?_set_ne (by (first | lia | omega))]
          exact get_last _ _
        have e3 : signsUp L R k2 ++ (sgn k2 (L.getD k2 0) (R.getD k2 0)).take (q + 1) = signsUp L R k2 ++ (sgn k2 (L.getD k2 0) (R.getD k2 0)).take q ++ [p] := by
          rw [List.take_add_one, hp, List.append_assoc]; rfl
        rw [e3]
        exact ⟨_, hh'.append hnew⟩
    · refine ExP.nil ⟨rfl, some (.int k2), ?_⟩
      rw [hchars, List.map_map, List.length_map] at hI
      rw [List.take_length] at hI
      rw [signsUp_succ]
      exact hI
  · obtain ⟨ok, xs, o, rfl, hpre, hD, hP, hPc⟩ := hI
    refine ExP.ret (Ev.local (v := .ref (H.length + 1)) (by walk_at "ux at")) ⟨_, rfl, hpre, _, xs, rfl, hP, ?_⟩
    have e : ((rng 0 1 L.length).map fun i => ItP.of (.int i)).length = L.length := by simp [rng]
    rw [e] at hPc
    exact hPc
end

section
variable {G : Gd} {cs : Scope} {d : Nat} {m m₁ m₂ m' : Mem} {H H₁ H₂ H₃ H' : Hp} {pos : Pos} {Post : PF → Mem → Hp → Prop} {st : Stmt} {sts : List Stmt}

theorem subTail {A : Around} {E : Value → Shared → Prop} {s : Shared} {value slice : Expr} {o i : Value} {T id : String} {Q : Value → Shared → Prop} (hT : s.TypeIs o T)
    (hl : typeLookup (.type T) "__getitem__" = pure (some (.builtin id))) (h : wpAny G.M A (getItem o i) Q E s)
    (hs : subscripted slice false o i = operate [o, i] (getItem o i)) :
    wpAny G.M A (subscriptTail value slice o i) Q E s := by
  unfold subscriptTail
  refine wpAny_bind ?_
  rw [getitemInPython_of_ne hT.not_modules]
  refine wpAny_bind (wpAny_specialOf hT hl ?_)
  have fin : wpAny G.M A (subscripted slice false o i) (fun r s₃ => wpAny G.M A (letTemporaryGo value o r >>= fun _ => pure r) Q E s₃) E s := by
    rw [hs]
    exact wpAny_operating (wpAny_mono h (fun r s₃ h₃ => wpAny_bind (wpAny_letTemporaryGo (wpAny_pure h₃))) fun _ _ x => x)
  first
    | exact wpAny_pure (wpAny_bind fin)
    | exact wpAny_bind (wpAny_pure (wpAny_bind fin))
    | exact wpAny_bind fin
theorem Ev.itemG {value idx : Expr} {n : Nat} {i : Int} {xs : List PV} {v : PV} (hv : Ev G cs d m H value (.ref n) H₁) (hi : Ev G cs d m H₁ idx (.int i) H₂) (hx : H₂[n]? = some xs) (h0 : 0 ≤ i) (hf : i < 2 ^ 63) (hg : xs[i.toNat]? = some v)
    (hs : ∀ l k u, subscripted idx false (.ref l) (.int k u) = operate [.ref l, .int k u] (getItem (.ref l) (.int k u)) := by intro _ _ _; with_unfolding_all rfl) :
    Ev G cs d m H (.Subscript value idx pos) v H₂ := fun env A ρ s Q E hE hA R k =>
  Subscript_ (hv env A ρ s _ E hE hA R fun ρ₁ s₁ ca S₁ R₁ c₁ => hi env A ρ₁ s₁ _ E hE hA R₁ fun ρ₂ s₂ ci S₂ R₂ c₂ => by
    cases c₁ with
    | ref e =>
    cases c₂ with
    | int _ ti =>
    obtain ⟨vs, hl, hc⟩ := (R₂.toRel0.at hx (prefix_get S₂.pre e)).isList
    obtain ⟨cv, e', hcv⟩ := hc.get hg
    exact subTail hl.typeIs slot_list_getitem.lookup (wpAny_getItem_list hl h0 hf (by simpa using e') (k ρ₂ s₂ cv (Rel.trans S₁ R₁ S₂) R₂ hcv)) (hs _ _ _))

set_option maxRecDepth 100000 in
theorem told_ok (g : GOK G) {i j : Nat} {L R : List Int} {total : Int} (hi : H[i]? = some (L.map PV.int)) (hj : H[j]? = some (R.map PV.int)) (hlen : L.length = R.length) (hL : L.length ≤ 100) (hs : (signs L R).length ≤ 100) (hv : ∀ k : Nat, ((L.getD k 0 - R.getD k 0).natAbs ≤ 100)) :
    ∃ H', Cl G (d + 6) (.ref 141) [.ref i, .ref j, .int total] H (.bool (bal ((signs L R).map (·.2)))) H' ∧ H <+: H' := by
  have D := DefOK.of g (f := 141) (ps := ["low", "high", "total"]) (rest := [("_law_taken", .globalImplicit), ("_law_pieces", .globalImplicit)]) rfl rfl rfl rfl rfl rfl rfl rfl rfl rfl (by decide) (by decide) (by decide)
  have hc : G.mg (Str.ofString "_law_taken") = some (.ref 134) := mg_of g.X G.g rfl
  have hk : G.mg (Str.ofString "_law_pieces") = some (.ref 127) := mg_of g.X G.g rfl
  have o134 := g.X 134 _ rfl
  have o127 := g.X 127 _ rfl
  obtain ⟨v, H1, c1, hp1, n, xs, rfl, hx, hpc⟩ := pieces_ok (d := d + 3) (total := total) g hi hj hlen hL hs hv
  obtain ⟨H2, c2, hp2⟩ := taken_ok (d := d) (H := H1) g hx hpc hs
  refine ⟨H2, Cl.def' (args' := [.ref i, .ref j, .int total]) (fl := .ret (.bool (bal ((signs L R).map (·.2))))) D rfl (.inl rfl) (by walk_at "ux bind3") ?_, hp1.trans hp2⟩
  exact ⟨_, Ex.stop (Es.ret (Ev.callF (Ev.global hc (by walk_at "ux mem")) o134 rfl (Evs.cons (Ev.callF (Ev.global hk (by walk_at "ux mem")) o127 rfl (Evs.cons (Ev.local (v := .ref i) (by walk_at "ux at")) (Evs.cons (Ev.local (v := .ref j) (by walk_at "ux at")) (Evs.cons (Ev.local (v := .int total) (by walk_at "ux at")) Evs.nil))) c1) Evs.nil) c2)) (by walk_at "ux flow")⟩

theorem fo_brk {target : Expr} {body : List Stmt} {ok : Hp → Prop} (I : Nat → Mem → Hp → Prop) (Dn : Nat → Mem → Hp → Prop) {items : List ItP} (hok : ∀ k m H, I k m H → ok H)
    (hstep : ∀ k P m H, items[k]? = some P → I k m H → ∃ m₁, Asg G cs d target P m H m₁ ∧ ExP G cs d m₁ H body (fun f m₂ H₂ => (f = .next ∧ I (k + 1) m₂ H₂) ∨ (f = .brk ∧ Dn k m₂ H₂))) :
    ∀ (its : List ItP) (k : Nat) (m : Mem) (H : Hp), items.drop k = its → I k m H → ∃ m' H', Fo G cs d target body ok its m H .next m' H' ∧ (I (k + its.length) m' H' ∨ ∃ q, q < items.length ∧ Dn q m' H')
  | [], k, m, H, hd, hi => ⟨m, H, .done (hok _ _ _ hi), .inl hi⟩
  | P :: r, k, m, H, hd, hi => by
    have hget : items[k]? = some P := by
      have := congrArg (·[0]?) hd
      simpa using this
    have hdrop : items.drop (k + 1) = r := by
      have := congrArg (List.drop 1) hd
      simpa [List.drop_drop, Nat.add_comm] using this
    obtain ⟨m₁, ha, f, m₂, H₂, hx, (⟨rfl, hi'⟩ | ⟨rfl, hdn⟩)⟩ := hstep k P m H hget hi
    · obtain ⟨m', H', w, hI⟩ := fo_brk I Dn hok hstep r (k + 1) m₂ H₂ hdrop hi'
      exact ⟨m', H', .step (hok _ _ _ hi) ha hx w, by rw [List.length_cons, show k + (r.length + 1) = k + 1 + r.length by (first | lia | omega)]; exact hI⟩
    · exact ⟨m₂, H₂, .brk (hok _ _ _ hi) ha hx, .inr ⟨k, (List.getElem?_eq_some_iff.mp hget).1, hdn⟩⟩
theorem ExP.forB {target iter : Expr} {body : List Stmt} {items : List ItP} {ok : Hp → Prop} (hi : Itb G cs d m H target iter items ok H₁) (I : Nat → Mem → Hp → Prop) (Dn : Nat → Mem → Hp → Prop) (h0 : I 0 m H₁) (hok : ∀ k m H, I k m H → ok H)
    (hstep : ∀ k P m H, items[k]? = some P → I k m H → ∃ m₁, Asg G cs d target P m H m₁ ∧ ExP G cs d m₁ H body (fun f m₂ H₂ => (f = .next ∧ I (k + 1) m₂ H₂) ∨ (f = .brk ∧ Dn k m₂ H₂)))
    (h' : ∀ m' H', (I items.length m' H' ∨ ∃ q, q < items.length ∧ Dn q m' H') → ExP G cs d m' H' sts Post) (hs : ∀ env x, foldedSetIterable iter env x = pure x := by intro _ _; rfl) : ExP G cs d m H (.For target iter body [] pos :: sts) Post := by
  obtain ⟨m', H', w, hI⟩ := fo_brk I Dn hok hstep items 0 m H₁ rfl h0
  rw [Nat.zero_add] at hI
  exact ExP.cons (Es.for hi w hs) (h' m' H' hI)
theorem ExP.brk (h : Post .brk m H) : ExP G cs d m H (.Break pos :: sts) Post := ⟨_, _, _, Ex.stop Es.brk (by walk_at "ux flow"), h⟩

theorem pickL_run {α : Type} (xs : List α) (a b : Nat) (hb : b ≤ xs.length) (hab : a ≤ b) : pickL xs (some a) (some b) none = (xs.drop a).take (b - a) := by
  have e : sliceBounds (some (a : Int)) (some (b : Int)) none xs.length = ((a : Int), (b : Int), 1) := by
    simp only [sliceBounds, Option.getD_none]
    have h1 : ¬ ((a : Int) < 0) := by (first | lia | omega)
    have h2 : ¬ ((b : Int) < 0) := by (first | lia | omega)
    simp only [h1, h2, if_false, show (1 : Int) > 0 by decide, if_true]
    refine Prod.ext ?_ (Prod.ext ?_ rfl) <;> dsimp only <;> (first | lia | omega)
  unfold pickL
  rw [e, sliceRange_one]
  have := pick_run xs.toArray a (b - a)
  simpa using this
theorem range_cand (b : Nat) : Builtin.Range.rangeSize ((b : Int) - 1) (-1) (-2) = (((b + 1) / 2 : Nat) : Int) := by
  unfold Builtin.Range.rangeSize
  rw [if_neg (by decide)]
  by_cases h : (b : Int) - 1 > -1
  · rw [if_pos h]
    have e : ((b : Int) - 1 - -1 - 1) / (- -2) = ((b - 1) / 2 : Nat) := by
      have : (- -2 : Int) = 2 := by decide
      rw [this]; (first | lia | omega)
    rw [e]; (first | lia | omega)
  · rw [if_neg h]; (first | lia | omega)

inductive Gs (H : Hp) : List PV → List (Int × Int) → Prop
  | nil : Gs H [] []
  | cons {i : Nat} {a b : Int} {xs : List PV} {gs : List (Int × Int)} : H[i]? = some [.int a, .int b] → Gs H xs gs → Gs H (.ref i :: xs) ((a, b) :: gs)
theorem Gs.mono {xs : List PV} {gs : List (Int × Int)} (h : Gs H xs gs) (hk : ∀ (i : Nat) a b, H[i]? = some [.int a, .int b] → H'[i]? = some [.int a, .int b]) : Gs H' xs gs := by
  induction h with
  | nil => exact .nil
  | cons a _ ih => exact .cons (hk _ _ _ a) ih
theorem Gs.append {xs ys : List PV} {ps qs : List (Int × Int)} (h : Gs H xs ps) (h' : Gs H ys qs) : Gs H (xs ++ ys) (ps ++ qs) := by
  induction h with
  | nil => exact h'
  | cons a _ ih => exact .cons a ih
theorem Gs.ne {xs : List PV} {gs : List (Int × Int)} (h : Gs H xs gs) (a b : Int) : xs ≠ [.int a, .int b] := by
  rintro rfl
  cases h
theorem Gs.len {xs : List PV} {gs : List (Int × Int)} (h : Gs H xs gs) : xs.length = gs.length := by
  induction h with
  | nil => rfl
  | cons _ _ ih => simp [ih]
theorem Gs.get {xs : List PV} {gs : List (Int × Int)} (h : Gs H xs gs) {q : Nat} {x : PV} (e : xs[q]? = some x) : ∃ i p, x = .ref i ∧ gs[q]? = some p ∧ H[i]? = some [.int p.1, .int p.2] := by
  induction h generalizing q with
  | nil => cases e
  | cons a _ ih =>
    cases q with
    | zero => simp at e; subst e; exact ⟨_, _, rfl, rfl, a⟩
    | succ q => simpa using ih (by simpa using e)

/-- the stretch from a to b: is it taken -/
noncomputable def stretch (ps : List (Int × Bool)) (a b : Nat) : Bool := bal (((ps.drop a).take (b + 1 - a)).map (·.2))
noncomputable def giftAt (ps : List (Int × Bool)) (b : Nat) : List Nat → List (Int × Int)
  | [] => []
  | a :: r => if stretch ps a b = true then [((ps.getD a (0, true)).1, (ps.getD b (0, true)).1)] else giftAt ps b r
noncomputable def cands (b : Nat) : List Nat := (List.range ((b + 1) / 2)).map fun i => b - 1 - 2 * i
noncomputable def giftsUp (ps : List (Int × Bool)) (n : Nat) : List (Int × Int) := (List.range n).flatMap fun b => giftAt ps b (cands b)
theorem giftsUp_succ (ps : List (Int × Bool)) (n : Nat) : giftsUp ps (n + 1) = giftsUp ps n ++ giftAt ps n (cands n) := by
  unfold giftsUp
  rw [List.range_succ, List.flatMap_append]
  simp
theorem giftAt_len (ps : List (Int × Bool)) (b : Nat) : ∀ l, (giftAt ps b l).length ≤ 1
  | [] => Nat.zero_le _
  | a :: r => by
    unfold giftAt
    split
    · exact Nat.le_refl _
    · exact giftAt_len ps b r
theorem giftsUp_len (ps : List (Int × Bool)) : ∀ n, (giftsUp ps n).length ≤ n
  | 0 => Nat.le_refl _
  | n + 1 => by
    rw [giftsUp_succ, List.length_append]
    have := giftsUp_len ps n
    have := giftAt_len ps n (cands n)
    (first | lia | omega)

set_option maxRecDepth 100000 in
theorem gifts_ok (g : GOK G) {n : Nat} {xs : List PV} {ps : List (Int × Bool)} (hx : H[n]? = some xs) (hp : Pcs H xs ps) (hl : ps.length ≤ 100) :
    ∃ v H', Cl G (d + 6) (.ref 148) [.ref n] H v H' ∧ H <+: H' ∧ ∃ k ys, v = .ref k ∧ H'[k]? = some ys ∧ Gs H' ys (giftsUp ps ps.length) := by
  have D := DefOK.of g (f := 148) (ps := ["pieces"]) (rest := [("gifts", .local), ("b", .local), ("a", .local), ("range", .globalImplicit), ("len", .globalImplicit), ("_law_taken", .globalImplicit)]) rfl rfl rfl rfl rfl rfl rfl rfl rfl rfl (by decide) (by decide) (by decide)
  have hr : G.mg (Str.ofString "range") = none := mg_none_of g.X G.g rfl
  have hln : G.mg (Str.ofString "len") = none := mg_none_of g.X G.g rfl
  have hc : G.mg (Str.ofString "_law_taken") = some (.ref 134) := mg_of g.X G.g rfl
  have o134 := g.X 134 _ rfl
  have hsl : sizeLine = 16777216 := by decide +kernel
  have hxl : xs.length = ps.length := by obtain ⟨ss, h⟩ := hp; exact h.len.1
  refine Cl.defP (P := fun v H' => H <+: H' ∧ ∃ k ys, v = .ref k ∧ H'[k]? = some ys ∧ Gs H' ys (giftsUp ps ps.length)) (args' := [.ref n]) D rfl (by walk_at "ux bind1") ?_
  refine ExP.cons (Es.assign (v := .ref H.length) (Ev.list Evs.nil (by simp)) (by walk_at "ux put")) ?_
  let Inv : List (Int × Int) → Option PV → Mem → Hp → Prop := fun gs ob m H' => ∃ ys o, m = [some (.ref n), some (.ref H.length), ob, o, none, none, none] ∧ H <+: H' ∧ H'[H.length]? = some ys ∧ Gs H' ys gs
  refine ExP.for (Itb.range1 (n := ps.length) hr (by walk_at "ux mem") ((Ev.callB (Ev.builtin hln PySem.boot_len (by walk_at "ux mem")) (Evs.cons (Ev.local (v := .ref n) (by walk_at "ux at")) Evs.nil) (cl_len (prefix_get (List.prefix_append _ _) hx) (by (first | lia | omega)))).of (by rw [hxl])) (by (first | lia | omega)))
    (fun k m H' => ∃ ob, Inv (giftsUp ps k) ob m H') ⟨none, [], none, rfl, List.prefix_append _ _, get_last _ _, .nil⟩ (fun _ _ _ _ => trivial) (fun b P m H₁ hget hI => ?_) (fun m' H₂ hI => ?_)
  · obtain ⟨ob, ys, o, rfl, hpre, hG, hgs⟩ := hI
    rw [List.getElem?_map] at hget
    obtain ⟨kk, hk', rfl⟩ := Option.map_eq_some_iff.mp hget
    unfold rng at hk'
    rw [List.getElem?_map] at hk'
    obtain ⟨k2, hk2, rfl⟩ := Option.map_eq_some_iff.mp hk'
    have hkk : k2 = b ∧ b < ps.length := by
      obtain ⟨h1, h2⟩ := List.getElem?_eq_some_iff.mp hk2
      simp at h1 h2
      (first | lia | omega)
    obtain ⟨rfl, hkL⟩ := hkk
    have ek : (0 : Int) + (k2 : Int) * 1 = k2 := by (first | lia | omega)
    rw [ek]
    refine ⟨_, Asg.name (by walk_at "ux put"), ?_⟩
    refine ExP.forB (Itb.range3 (a := (k2 : Int) - 1) (b := -1) (c := -2) (n := (k2 + 1) / 2) hr (by walk_at "ux mem") (Ev.bin (Ev.local (v := .int k2) (by walk_at "ux at")) Ev.const_int op_sub) (Ev.neg Ev.const_int) (Ev.neg Ev.const_int) (by decide) (by decide) ?hsm (range_cand k2))
      (fun q m H' => Inv (giftsUp ps k2) (some (.int k2)) m H' ∧ giftAt ps k2 (cands k2) = giftAt ps k2 ((cands k2).drop q)) (fun q m H' => Inv (giftsUp ps k2 ++ giftAt ps k2 (cands k2)) (some (.int k2)) m H') ⟨⟨ys, o, rfl, hpre, hG, hgs⟩, rfl⟩ (fun _ _ _ _ => trivial) (fun q P m H₂ hget hI => ?_) (fun m' H₂ hI => ?_)
    case hsm =>
      unfold Builtin.Range.small
      rw [range_cand]
      simp only [Builtin.Range.rangeFitsLong, Bool.and_eq_true, Bool.or_eq_true, decide_eq_true_eq, beq_iff_eq, show ¬ ((-2 : Int) > 0) by decide, if_false]
      (first | lia | omega)
    · obtain ⟨⟨ys2, o2, rfl, hpre2, hG2, hgs2⟩, hrest⟩ := hI
      rw [List.getElem?_map] at hget
      obtain ⟨kk, hk', rfl⟩ := Option.map_eq_some_iff.mp hget
      unfold rng at hk'
      rw [List.getElem?_map] at hk'
      obtain ⟨q2, hq2, rfl⟩ := Option.map_eq_some_iff.mp hk'
      have hqq : q2 = q ∧ q < (k2 + 1) / 2 := by
        obtain ⟨h1, h2⟩ := List.getElem?_eq_some_iff.mp hq2
        simp at h1 h2
        (first | lia | omega)
      obtain ⟨rfl, hqL⟩ := hqq
      have hcd : (cands k2).drop q2 = (k2 - 1 - 2 * q2) :: (cands k2).drop (q2 + 1) := by
        rw [List.drop_eq_getElem_cons (by simp [cands]; (first | lia | omega))]
        simp [cands]
      generalize ha : k2 - 1 - 2 * q2 = a at hcd
      have hak : a + 1 ≤ k2 := by (first | lia | omega)
      have ea : (k2 : Int) - 1 + (q2 : Int) * -2 = (a : Int) := by (first | lia | omega)
      rw [ea]
      refine ⟨_, Asg.name (by walk_at "ux put"), ?_⟩
      have hx2 := prefix_get hpre2 hx
      have hpick := pickL_run xs a (k2 + 1) (by (first | lia | omega)) (by (first | lia | omega))
      obtain ⟨ss, hps⟩ := hp
      have hpc3 : Pcs (H₂ ++ [(xs.drop a).take (k2 + 1 - a)]) ((xs.drop a).take (k2 + 1 - a)) ((ps.drop a).take (k2 + 1 - a)) := Pcs.pre ⟨_, (hps.drop a).take _⟩ (hpre2.trans (List.prefix_append _ _))
      obtain ⟨H3, c3, hp3⟩ := taken_ok (d := d) (n := H₂.length) g (get_last _ _) hpc3 (by rw [List.length_take, List.length_drop]; (first | lia | omega))
      have hst : bal (((ps.drop a).take (k2 + 1 - a)).map (·.2)) = stretch ps a k2 := rfl
      rw [hst] at c3
      have hslice : ∀ {cs' : Scope} {m' : Mem} {e1 e2 e3 : Expr} {p1 p2 : Pos} (hv : Ev G cs' (d + 5) m' H₂ e1 (.ref n) H₂) (ha : EvP G cs' (d + 5) m' H₂ (some e2) (some (a : Int))) (hb : EvP G cs' (d + 5) m' H₂ (some e3) (some ((k2 : Int) + 1))) (ht : ∀ o r, letTemporaryGo e1 o r = pure ()),
          Ev G cs' (d + 5) m' H₂ (.Subscript e1 (.Slice (some e2) (some e3) none p1) p2) (.ref H₂.length) (H₂ ++ [(xs.drop a).take (k2 + 1 - a)]) := fun {cs' m' e1 e2 e3 p1 p2} hv ha hb ht => by
        have := Ev.slice (pos := p2) (p := p1) hv hx2 ha hb (by rw [hsl]; (first | lia | omega)) ht
        rw [show ((k2 : Int) + 1) = ((k2 + 1 : Nat) : Int) by (first | lia | omega), hpick] at this
        exact this
      have hx3 := prefix_get ((List.prefix_append _ _).trans hp3) hx2
      have hG3 := prefix_get ((List.prefix_append _ _).trans hp3) hG2
      have hpre3 := hpre2.trans ((List.prefix_append _ _).trans hp3)
      have hgs3 : Gs H3 ys2 (giftsUp ps k2) := hgs2.mono fun _ _ _ e => prefix_get ((List.prefix_append _ _).trans hp3) e
      have htest : ∀ {cs' : Scope} {m' : Mem} {e1 : Expr} {p1 : Pos} {k' : Nat} {p2 : Pos} (h : Ev G cs' (d + 5) m' H₂ e1 (.bool (stretch ps a k2)) H3), Tr G cs' (d + 5) m' H₂ (.Compare e1 [.Is] [.Constant (.bool true) k' p2] p1) (stretch ps a k2) H3 := fun h => (Tr.cmp h Ev.const_bool op_is_bool).of (by simp)
      have hax : a < xs.length := by (first | lia | omega)
      have hkx : k2 < xs.length := by (first | lia | omega)
      obtain ⟨ia, pa, sa, ea1, ea2, ea3, ea4, _⟩ := hps.get (q := a) (x := xs[a]) (List.getElem?_eq_getElem hax)
      obtain ⟨ib, pb, sb, eb1, eb2, eb3, eb4, _⟩ := hps.get (q := k2) (x := xs[k2]) (List.getElem?_eq_getElem hkx)
      have ga : xs[((a : Int)).toNat]? = some (.ref ia) := by rw [Int.toNat_natCast, List.getElem?_eq_getElem hax, ea1]
      have gb : xs[((k2 : Int)).toNat]? = some (.ref ib) := by rw [Int.toNat_natCast, List.getElem?_eq_getElem hkx, eb1]
      have ha4 := prefix_get hpre3 ea4
      have hb4 := prefix_get hpre3 eb4
      have hPlt : H.length < H3.length := (List.getElem?_eq_some_iff.mp hG3).1
      by_cases hs : stretch ps a k2 = true
      · have hgl : giftAt ps k2 (cands k2) = [(pa.1, pb.1)] := by
          rw [hrest, hcd]
          simp only [giftAt]
          rw [if_pos hs, List.getD_eq_getElem?_getD, ea2, List.getD_eq_getElem?_getD, eb2]; rfl
        have hap := cl_append (G := G) (d := d + 5) (H := H3 ++ [[.int pa.1, .int pb.1]]) (n := H.length) (v := .ref H3.length) (prefix_get (List.prefix_append _ _) hG3) (by rw [hsl, hgs2.len]; have := giftsUp_len ps k2; (first | lia | omega))
        refine ExP.take ((htest (Ev.callF (Ev.global hc (by walk_at "ux mem")) o134 rfl (Evs.cons (hslice (Ev.local (v := .ref n) (by walk_at "ux at")) (EvP.some (Ev.local (v := .int a) (by walk_at "ux at"))) (EvP.some (Ev.bin (Ev.local (v := .int k2) (by walk_at "ux at")) Ev.const_int op_add)) (by intro _ _; rfl)) Evs.nil) c3)).of hs) ?_
        refine ExP.cons (Es.expr (Ev.meth (Ev.local (v := .ref H.length) (by walk_at "ux at")) hG3 PySem.F.slot_list_append rfl (Evs.cons (Ev.list (vs := [.int pa.1, .int pb.1]) (Evs.cons
          (Ev.itemG (i := 0) (v := .int pa.1) (Ev.item (v := .ref ia) (Ev.local (v := .ref n) (by walk_at "ux at")) (Ev.local (v := .int a) (by walk_at "ux at")) hx3 (by (first | lia | omega)) (by (first | lia | omega)) ga) Ev.const_int ha4 (by decide) (by decide) rfl) (Evs.cons
          (Ev.itemG (i := 0) (v := .int pb.1) (Ev.item (v := .ref ib) (Ev.local (v := .ref n) (by walk_at "ux at")) (Ev.local (v := .int k2) (by walk_at "ux at")) hx3 (by (first | lia | omega)) (by (first | lia | omega)) gb) Ev.const_int hb4 (by decide) (by decide) rfl) Evs.nil)) (by rw [hsl]; exact (by decide : 2 ≤ 16777216))) Evs.nil) hap (by rfl) _ (fun env => rfl))) ?_
        refine ExP.brk ⟨by walk_at "ux flow", .inr ⟨rfl, ys2 ++ [.ref H3.length], _, rfl, pre_set (hpre3.trans (List.prefix_append _ _)) (Nat.le_refl _), ?_, ?_⟩⟩
        · rw [List.getElem?_set_self (by rw [List.length_append]; (first | lia | omega))]
        · rw [hgl]
          have hne := hgs3.ne
          refine Gs.append (hgs3.mono fun i a' b' e => ?_) (.cons ?_ .nil)
          · have hi : H.length ≠ i := fun q => by
              subst q
              rw [hG3] at e
              exact hne a' b' (Option.some.inj e)
            rw [List.getElem?_set_ne hi]
            exact prefix_get (List.prefix_append _ _) e
          · rw [List.getElem?_set_ne (by (first | lia | omega))]
            exact get_last _ _
      · refine ExP.skip ((htest (Ev.callF (Ev.global hc (by walk_at "ux mem")) o134 rfl (Evs.cons (hslice (Ev.local (v := .ref n) (by walk_at "ux at")) (EvP.some (Ev.local (v := .int a) (by walk_at "ux at"))) (EvP.some (Ev.bin (Ev.local (v := .int k2) (by walk_at "ux at")) Ev.const_int op_add)) (by intro _ _; rfl)) Evs.nil) c3)).of (by simpa using hs)) ?_
        refine ExP.nil (.inl ⟨rfl, ⟨ys2, _, rfl, hpre3, hG3, hgs3⟩, ?_⟩)
        rw [hrest, hcd]
        simp only [giftAt]
        rw [if_neg hs]
    · refine ExP.nil ⟨rfl, some (.int k2), ?_⟩
      rw [giftsUp_succ]
      rcases hI with ⟨hI, hrest⟩ | ⟨q, _, hI⟩
      · have e : ((rng ((k2 : Int) - 1) (-2) ((k2 + 1) / 2)).map fun i => ItP.of (.int i)).length = (cands k2).length := by simp [rng, cands]
        rw [e, List.drop_length] at hrest
        rw [hrest]
        simpa [giftAt] using hI
      · exact hI
  · obtain ⟨ob, ys, o, rfl, hpre, hG, hgs⟩ := hI
    refine ExP.ret (Ev.local (v := .ref H.length) (by walk_at "ux at")) ⟨_, rfl, hpre, _, ys, rfl, hG, ?_⟩
    have e : ((rng 0 1 ps.length).map fun i => ItP.of (.int i)).length = ps.length := by simp [rng]
    rw [e] at hgs
    exact hgs
end

section
variable {G : Gd} {cs : Scope} {d : Nat} {m m₁ m₂ m' : Mem} {H H₁ H₂ H₃ H' : Hp} {pos : Pos}

/-- the filters of a comprehension: none or one -/
inductive Ts (G : Gd) (cs : Scope) (d : Nat) : List Expr → Mem → Hp → Bool → Hp → Prop
  | nil {m : Mem} {H : Hp} : Ts G cs d [] m H true H
  | one {c : Expr} {m : Mem} {H H₁ : Hp} {b : Bool} : Tr G cs d m H c b H₁ → Ts G cs d [c] m H b H₁
theorem Ts.run {ifs : List Expr} {b : Bool} (h : Ts G cs d ifs m H b H₁) {env : Env} {A : Around} {ρ : List Addr} {s : Shared} {Q : Bool → Shared → Prop} {E : Value → Shared → Prop} (hE : EnvOK cs env) (hA : AOk d A) (R : Rel G env ρ m H s)
    (k : ∀ ρ' s', Stp (Own env) ρ s ρ' s' → Rel G env ρ' m H₁ s' → Q b s') : wpAny G.M A (forIn ifs true fun c r => if r = true then do let ok ← isTrue c env (eval c env); pure (ForInStep.yield ok) else pure (ForInStep.yield r)) Q E s := by
  cases h with
  | nil => rw [List.forIn_nil]; exact wpAny_pure (k ρ s (Stp.refl _ _ _) R)
  | one ht =>
    rw [List.forIn_cons]
    simp only [if_true]
    refine wpAny_bind (wpAny_bind (ht env A ρ s _ E hE hA R fun ρ₁ s₁ c S₁ R₁ hc => ?_))
    subst hc
    refine wpAny_pure ?_
    simp only [List.forIn_nil]
    exact wpAny_pure (k ρ₁ s₁ S₁ R₁)

inductive Co (G : Gd) (cs : Scope) (d : Nat) (target : Expr) (ifs : List Expr) (elt : Expr) (ok : Hp → Prop) (nA : Nat) : List ItP → Mem → Hp → Mem → Hp → Prop
  | done {m : Mem} {H : Hp} : ok H → Co G cs d target ifs elt ok nA [] m H m H
  | emit {P : ItP} {Ps : List ItP} {m m₁ m' : Mem} {H H₁ H₂ H' : Hp} {v : PV} {ys : List PV} : ok H → Asg G cs d target P m H m₁ → Ts G cs d ifs m₁ H true H₁ → Ev G cs d m₁ H₁ elt v H₂ → H₂[nA]? = some ys → ys.length ≤ sizeLine →
      Co G cs d target ifs elt ok nA Ps m₁ (H₂.set nA (ys ++ [v])) m' H' → Co G cs d target ifs elt ok nA (P :: Ps) m H m' H'
  | skip {P : ItP} {Ps : List ItP} {m m₁ m' : Mem} {H H₁ H' : Hp} : ok H → Asg G cs d target P m H m₁ → Ts G cs d ifs m₁ H false H₁ → Co G cs d target ifs elt ok nA Ps m₁ H₁ m' H' → Co G cs d target ifs elt ok nA (P :: Ps) m H m' H'

theorem Stp.mono {W V : Addr → Prop} {ρ ρ' : List Addr} {s s' : Shared} (S : Stp W ρ s ρ' s') (h : ∀ b, W b → V b) : Stp V ρ s ρ' s' :=
  ⟨S.pre, S.new, fun b o hw hb e => S.frame b o (fun q => hw (h b q)) hb e, S.os, S.gsz, S.gen⟩
theorem Stp.chgW {W : Addr → Prop} {ρ ρ' : List Addr} {s s' s'' : Shared} {fp : List Addr} (S : Stp W ρ s ρ' s') (c : Chg fp s.gens.size s' s'') (hfp : ∀ b ∈ fp, W b) : Stp W ρ s ρ' s'' :=
  ⟨S.pre, S.new, fun b o hw hb e => c.heap b o (fun h => hw (hfp b h)) (S.frame b o hw hb e), c.os.trans S.os, Nat.le_trans S.gsz c.gsz, fun i hi => (c.gen i hi).trans (S.gen i hi)⟩

theorem comp_loop {target elt iter : Expr} {ifs : List Expr} {scope : Scope} {cenv : Env} {A : Around} {items : List ItP} {ok : Hp → Prop} {St : Nat → List Addr → Shared → Prop} {I a : Addr} {fp : List Addr} {nA : Nat} {ρ₀ ρ₁ : List Addr} {s₁ : Shared} {RR : Result → Shared → Prop}
    (hE : EnvOK cs cenv) (hA : AOk d A) (W : IterOK G A target ρ₀ I s₁.gens.size items ok St) (hfc : ∀ i fp' s₁, St i fp' s₁ → fp' = fp) (R : Rel G cenv ρ₁ m H₁ s₁) (hacc : ρ₁[nA]? = some a) (hpre₀ : ρ₀ <+: ρ₁) (hst : St 0 fp s₁)
    (hfp : ∀ b ∈ fp, b ∉ ρ₁ ∧ ¬ Own cenv b ∧ G.h₀.get? b = none ∧ ∃ o, s₁.heap.get? b = some o) (w : Co G cs d target ifs elt ok nA items m H₁ m' H')
    (k : ∀ ρ' s', Stp (fun b => Own cenv b ∨ b ∈ fp) ρ₁ s₁ ρ' s' → Rel G cenv ρ' m' H' s' → ρ₁ <+: ρ' → RR (.ok .next) s') :
    codeAny G.M A (.compLoop (.ListComp elt [⟨target, iter, ifs, 0⟩] scope pos) 0 (.ref I) (.ref a) cenv) RR s₁ := by
  refine codeAny_loop rfl (fun j s' => ∃ i ρ' m₁ H₁, (j + i = items.length + 1 ∧ i ≤ items.length) ∧ Stp (fun b => Own cenv b ∨ b ∈ fp) ρ₁ s₁ ρ' s' ∧ Rel G cenv ρ' m₁ H₁ s' ∧ ρ₁ <+: ρ' ∧ St i fp s' ∧ (∀ b ∈ fp, b ∉ ρ' ∧ ¬ Own cenv b ∧ G.h₀.get? b = none ∧ ∃ o, s'.heap.get? b = some o) ∧ Co G cs d target ifs elt ok nA (items.drop i) m₁ H₁ m' H') ?_ (items.length + 1)
    ⟨0, ρ₁, m, _, ⟨rfl, Nat.zero_le _⟩, Stp.refl _ _ _, R, List.prefix_refl _, hst, hfp, w⟩
  rintro j s' ⟨i, ρ', m₁, H₂, ⟨hj, hile⟩, S', R', hpre, hst, hal, w⟩
  show wpAny _ A ((compTurn (.ListComp elt [⟨target, iter, ifs, 0⟩] scope pos) 0 (.ref I) (.ref a) cenv).onRaise (fun x => do noteFrame x cenv; theTreesLotGoes x)) _ _ s'
  refine wpAny_noted ?_
  rw [compTurn_list]
  refine wpAny_bind (wpAny_standAt (wpAny_bind ?_))
  have hfr : ∀ b ∈ fp, b ∉ ρ' ∧ ¬ Own cenv b ∧ G.h₀.get? b = none := fun b hb => ⟨(hal b hb).1, (hal b hb).2.1, (hal b hb).2.2.1⟩
  cases hd : items.drop i with
  | nil =>
    rw [hd] at w
    have hle : items.length ≤ i := List.drop_eq_nil_iff.mp hd
    have hi : i = items.length := Nat.le_antisymm hile hle
    subst hi
    cases w with
    | done hok =>
      refine W.done ρ' _ s' fp _ _ (hpre₀.trans hpre) R'.toRel0 hok hst fun s'' c => ?_
      exact wpAny_pure (k ρ' s'' (S'.chgW c fun b hb => .inr hb) (R'.chg c hfr) hpre)
  | cons P Ps =>
    rw [hd] at w
    have hlt : i < items.length := by
      false_or_by_contra
      rename_i hn
      rw [List.drop_eq_nil_iff.mpr (Nat.le_of_not_lt hn)] at hd
      cases hd
    have hget : items[i]? = some P := by
      have := congrArg (·[0]?) hd
      simpa using this
    have hdrop : items.drop (i + 1) = Ps := by
      have := congrArg (List.drop 1) hd
      simpa [List.drop_drop, Nat.add_comm] using this
    have hok : ok H₂ := by cases w <;> assumption
    refine wpAny_mono (W.item ρ' _ s' i fp P (fun v s₂ => ∃ fp', St (i + 1) fp' s₂ ∧ Chg fp s₁.gens.size s' s₂ ∧ (∀ b ∈ fp', (b ∈ fp ∨ s'.heap.get? b = none) ∧ ∃ o, s₂.heap.get? b = some o) ∧ P ρ' v s₂) (fun _ _ => False) (hpre₀.trans hpre) R'.toRel0 hok hst hget fun s'' cv fp' h1 h2 h3 h4 => ⟨fp', h1, h2, h3, h4⟩) (fun r s₂ hr => ?_) (fun _ _ h => h.elim)
    obtain ⟨v, rfl, hgo⟩ := hr
    refine wpAny_bind (wpAny_mono hgo (fun _ s₁' hq => ?_) fun _ _ h => h.elim)
    obtain ⟨fp', st₁, c, hlv, hP⟩ := hq
    have hfe := hfc _ _ _ st₁
    subst hfe
    have S1 := S'.chgW c fun b hb => .inr hb
    have R1 := R'.chg c hfr
    have go : ∀ {ρ₃ : List Addr} {s₃ : Shared} {m₃ : Mem} {H₃ : Hp}, Stp (Own cenv) ρ' s₁' ρ₃ s₃ → Rel G cenv ρ₃ m₃ H₃ s₃ → Stp (fun b => Own cenv b ∨ b ∈ fp') ρ₁ s₁ ρ₃ s₃ ∧ St (i + 1) fp' s₃ ∧ ∀ b ∈ fp', b ∉ ρ₃ ∧ ¬ Own cenv b ∧ G.h₀.get? b = none ∧ ∃ o, s₃.heap.get? b = some o := fun {ρ₃ s₃ m₃ H₃} S₃ R₃ => by
      have hk : ∀ b ∈ fp', ∀ o, s₁'.heap.get? b = some o → s₃.heap.get? b = some o := fun b hb o e => S₃.frame b o (hfr b hb).2.1 (hfr b hb).1 e
      refine ⟨S1.trans (S₃.mono fun b hb => .inl hb) fun b hb _ => ?_, W.stable _ _ _ _ st₁ hk S₃.gsz fun i _ hi => S₃.gen i hi, fun b hb => ?_⟩
      · rcases hb with hb | hb
        · exact R1.toFra.alive hb
        · exact (hlv b hb).2
      · obtain ⟨h2, h3, h4⟩ := hfr b hb
        obtain ⟨o, e⟩ := (hlv b hb).2
        refine ⟨fun hm => ?_, h3, h4, o, hk b hb o e⟩
        rcases S₃.new b hm with h | h
        · exact h2 h
        · rw [e] at h; cases h
    cases w with
    | emit _ ha ht he hy hz hw =>
      refine wpAny_bind (ha cenv A ρ' s₁' v _ _ hE hA R1 hP fun s₂ S₂ R₂ => ?_)
      refine wpAny_bind (ht.run hE hA R₂ fun ρ₃ s₃ S₃ R₃ => ?_)
      simp only [if_true]
      refine wpAny_bind (wpAny_bind (he cenv A ρ₃ s₃ _ _ hE hA R₃ fun ρ₄ s₄ cv S₄ R₄ hcv => ?_))
      have hpA : ρ₄[nA]? = some a := prefix_get (((hpre.trans S₂.pre).trans S₃.pre).trans S₄.pre) hacc
      refine wpAny_bind ((cl_append (d := d) hy hz) A ρ₄ s₄ [.ref a, cv] _ _ hA R₄.toRel0 (.cons (.ref hpA) (.cons hcv .nil)) fun ρ₅ s₅ cw S₅ R₅ _ => ?_)
      have R5 : Rel G cenv ρ₅ _ _ s₅ := { toRel0 := R₅, toFra := R₄.toFra.of_stp S₅ }
      have Sall := Rel.trans (Rel.trans (Rel.trans S₂ R₂ S₃) R₃ S₄) R₄ S₅.widen
      obtain ⟨g0, g1, g2⟩ := go Sall R5
      exact wpAny_pure (wpAny_pure ⟨rfl, j - 1, by (first | lia | omega), i + 1, ρ₅, _, _, ⟨by (first | lia | omega), hlt⟩, g0, R5, hpre.trans Sall.pre, g1, g2, by rw [hdrop]; exact hw⟩)
    | skip _ ha ht hw =>
      refine wpAny_bind (ha cenv A ρ' s₁' v _ _ hE hA R1 hP fun s₂ S₂ R₂ => ?_)
      refine wpAny_bind (ht.run hE hA R₂ fun ρ₃ s₃ S₃ R₃ => ?_)
      have Sall := Rel.trans S₂ R₂ S₃
      obtain ⟨g0, g1, g2⟩ := go Sall R₃
      exact wpAny_pure ⟨rfl, j - 1, by (first | lia | omega), i + 1, ρ₃, _, _, ⟨by (first | lia | omega), hlt⟩, g0, R₃, hpre.trans Sall.pre, g1, g2, by rw [hdrop]; exact hw⟩

/-- cells laid over a closure -/
theorem cf_mem : ∀ (names : List (Str × NameKind)) (h : Heap) (acc : List (Str × Addr)) (x : Str) (c : Addr), (x, c) ∈ cellsFrom h.objs.size names acc → (x, c) ∈ acc ∨ ((x, NameKind.cell) ∈ names ∧ h.objs.size ≤ c ∧ (pushCells h names).IsCell c none)
  | [], h, acc, x, c, hm => .inl hm
  | (n, k) :: r, h, acc, x, c, hm => by
    unfold cellsFrom at hm
    unfold pushCells
    split at hm
    · rename_i hk
      rw [if_pos hk]
      have hk' : k = .cell := by simpa using hk
      have hm' : (x, c) ∈ cellsFrom (h.push { cls := .type "cell", data := .cell none }).objs.size r ((n, h.objs.size) :: acc) := by rw [Heap.size_push]; exact hm
      rcases cf_mem r _ _ x c hm' with h1 | ⟨h1, h2, h3⟩
      · rcases List.mem_cons.mp h1 with e | h1
        · cases e
          exact .inr ⟨by rw [hk']; exact List.mem_cons_self .., Nat.le_refl _, ⟨_, pushCells_keeps r _ _ _ (Heap.get?_push_size _ rfl), rfl⟩⟩
        · exact .inl h1
      · rw [Heap.size_push] at h2
        exact .inr ⟨List.mem_cons_of_mem _ h1, Nat.le_of_succ_le h2, h3⟩
    · rename_i hk
      rw [if_neg hk]
      rcases cf_mem r h acc x c hm with h1 | ⟨h1, h2, h3⟩
      · exact .inl h1
      · exact .inr ⟨List.mem_cons_of_mem _ h1, h2, h3⟩
theorem cf_inj : ∀ (names : List (Str × NameKind)) (n : Nat) (acc : List (Str × Addr)), (∀ x c, (x, c) ∈ acc → c < n) → (∀ x y c, (x, c) ∈ acc → (y, c) ∈ acc → x = y) → ∀ x y c, (x, c) ∈ cellsFrom n names acc → (y, c) ∈ cellsFrom n names acc → x = y
  | [], n, acc, h1, h2, x, y, c, hx, hy => h2 x y c hx hy
  | (nm, k) :: r, n, acc, h1, h2, x, y, c, hx, hy => by
    unfold cellsFrom at hx hy
    split at hx
    · rename_i hk
      rw [if_pos hk] at hy
      refine cf_inj r (n + 1) ((nm, n) :: acc) (fun x c h => ?_) (fun x y c hx hy => ?_) x y c hx hy
      · rcases List.mem_cons.mp h with e | h
        · cases e; exact Nat.lt_succ_self _
        · exact Nat.lt_succ_of_lt (h1 x c h)
      · rcases List.mem_cons.mp hx with e | hx <;> rcases List.mem_cons.mp hy with e' | hy
        · cases e; cases e'; rfl
        · cases e; exact absurd (h1 _ _ hy) (Nat.lt_irrefl _)
        · cases e'; exact absurd (h1 _ _ hx) (Nat.lt_irrefl _)
        · exact h2 x y c hx hy
    · rename_i hk
      rw [if_neg hk] at hy
      exact cf_inj r n acc h1 h2 x y c hx hy
theorem cf_look : ∀ (names : List (Str × NameKind)) (n : Nat) (acc : List (Str × Addr)) (x : Str), ((x, NameKind.cell) ∈ names ∨ ∃ c, acc.lookup x = some c) → ∃ c, (cellsFrom n names acc).lookup x = some c
  | [], n, acc, x, h => by
    rcases h with h | h
    · cases h
    · exact h
  | (nm, k) :: r, n, acc, x, h => by
    unfold cellsFrom
    split
    · rename_i hk
      refine cf_look r (n + 1) _ x ?_
      by_cases hx : x = nm
      · exact .inr ⟨n, by rw [List.lookup_cons]; simp [hx]⟩
      · rcases h with h | ⟨c, h⟩
        · rcases List.mem_cons.mp h with e | h
          · cases e; exact absurd rfl hx
          · exact .inl h
        · refine .inr ⟨c, ?_⟩
          rw [List.lookup_cons, show (x == nm) = false by simpa using hx]; exact h
    · rename_i hk
      refine cf_look r n acc x ?_
      rcases h with h | h
      · rcases List.mem_cons.mp h with e | h
        · cases e; exact absurd rfl hk
        · exact .inl h
      · exact .inr h
theorem cf_keep : ∀ (names : List (Str × NameKind)) (n : Nat) (acc : List (Str × Addr)) (x : Str), (x, NameKind.cell) ∉ names → (cellsFrom n names acc).lookup x = acc.lookup x
  | [], n, acc, x, h => rfl
  | (nm, k) :: r, n, acc, x, h => by
    unfold cellsFrom
    have hr : (x, NameKind.cell) ∉ r := fun q => h (List.mem_cons_of_mem _ q)
    split
    · rename_i hk
      have hk' : k = .cell := by simpa using hk
      have hx : ¬ x = nm := fun q => h (by rw [q, hk']; exact List.mem_cons_self ..)
      rw [cf_keep r (n + 1) _ x hr, List.lookup_cons, show (x == nm) = false by simpa using hx]
    · exact cf_keep r n acc x hr

/-- what the closure holds -/
noncomputable def clF (env : Env) : List (Str × NameKind) → List (Str × Addr) → List (Str × Addr)
  | [], acc => acc
  | (n, k) :: r, acc => clF env r (if (k == NameKind.free) = true then (n, (env.cells.lookup n).getD 0) :: acc else acc)
theorem closure_go (env : Env) (f : Str × NameKind → List (Str × Addr) → Sem (ForInStep (List (Str × Addr)))) (hf : ∀ n k acc, f (n, k) acc = if (k == NameKind.free) = true then (do let c ← cellOf env n; pure (.yield ((n, c) :: acc))) else pure (.yield acc)) :
    ∀ (names : List (Str × NameKind)) (acc : List (Str × Addr)), (∀ n, (n, NameKind.free) ∈ names → ∃ c, env.cells.lookup n = some c) → (forIn names acc f : Sem _) = pure (clF env names acc)
  | [], acc, h => by rw [List.forIn_nil]; rfl
  | (n, k) :: r, acc, h => by
    rw [List.forIn_cons, hf]
    have hr := fun acc => closure_go env f hf r acc fun n hn => h n (List.mem_cons_of_mem _ hn)
    by_cases hk : (k == NameKind.free) = true
    · have hk' : k = .free := by simpa using hk
      obtain ⟨c, hc⟩ := h n (by rw [hk']; exact List.mem_cons_self ..)
      rw [if_pos hk]
      have e : cellOf env n = pure c := by unfold cellOf; rw [hc]
      rw [e]
      show (forIn r ((n, c) :: acc) f : Sem _) = _
      rw [hr]
      simp only [clF, if_pos hk, hc, Option.getD_some]
    · rw [if_neg hk]
      show (forIn r acc f : Sem _) = _
      rw [hr]
      simp only [clF, if_neg hk]
theorem closure_eq {env : Env} {scope : Scope} (h : ∀ n, (n, NameKind.free) ∈ scope.names → ∃ c, env.cells.lookup n = some c) : closureFor scope env = pure (clF env scope.names []) := by
  simp only [closureFor]
  rw [closure_go env _ (fun n k acc => by rfl) scope.names [] h]
  rfl
theorem clF_mem (env : Env) : ∀ (names : List (Str × NameKind)) (acc : List (Str × Addr)) (x : Str) (c : Addr), (∀ n, (n, NameKind.free) ∈ names → ∃ c, env.cells.lookup n = some c) → (x, c) ∈ clF env names acc → (x, c) ∈ acc ∨ ((x, NameKind.free) ∈ names ∧ env.cells.lookup x = some c)
  | [], acc, x, c, h, hm => .inl hm
  | (n, k) :: r, acc, x, c, h, hm => by
    unfold clF at hm
    rcases clF_mem env r _ x c (fun n hn => h n (List.mem_cons_of_mem _ hn)) hm with h1 | ⟨h1, h2⟩
    · by_cases hk : (k == NameKind.free) = true
      · rw [if_pos hk] at h1
        have hk' : k = .free := by simpa using hk
        rcases List.mem_cons.mp h1 with e | h1
        · obtain ⟨c', hc'⟩ := h n (by rw [hk']; exact List.mem_cons_self ..)
          cases e
          exact .inr ⟨by rw [hk']; exact List.mem_cons_self .., by rw [hc']; rfl⟩
        · exact .inl h1
      · rw [if_neg hk] at h1; exact .inl h1
    · exact .inr ⟨List.mem_cons_of_mem _ h1, h2⟩
theorem clF_look (env : Env) : ∀ (names : List (Str × NameKind)) (acc : List (Str × Addr)) (x : Str) (c : Addr), env.cells.lookup x = some c → ((x, NameKind.free) ∈ names ∨ acc.lookup x = some c) → (clF env names acc).lookup x = some c
  | [], acc, x, c, hc, h => by
    rcases h with h | h
    · cases h
    · exact h
  | (n, k) :: r, acc, x, c, hc, h => by
    unfold clF
    refine clF_look env r _ x c hc ?_
    by_cases hx : x = n
    · subst hx
      by_cases hk : (k == NameKind.free) = true
      · rw [if_pos hk, List.lookup_cons]; simp [hc]
      · rw [if_neg hk]
        rcases h with h | h
        · rcases List.mem_cons.mp h with e | h
          · cases e; exact absurd rfl hk
          · exact .inl h
        · exact .inr h
    · rcases h with h | h
      · rcases List.mem_cons.mp h with e | h
        · cases e; exact absurd rfl hx
        · exact .inl h
      · right
        split
        · rw [List.lookup_cons, show (x == n) = false by simpa using hx]; exact h
        · exact h

theorem newCompEnv {M : Model} {A : Around} {E : Value → Shared → Prop} {s : Shared} {scope : Scope} {globals : Addr} {cl : List (Str × Addr)} {qual : Str} {outer : Env} {Q : Env → Shared → Prop}
    (h : Q { scope, locals := s.heap.objs.size, globals, cells := cellsFrom (s.heap.objs.size + 1) scope.names cl, qual, func := none, code := outer.code, frame := outer.frame, builtins := outer.builtins } { s with heap := pushCells (s.heap.push { cls := .type "dict", data := .dict #[] }) scope.names }) :
    wpAny M A (newFunctionEnv scope globals cl [] qual none .none (some outer)) Q E s := by
  simp only [newFunctionEnv, Option.isSome_some, if_true]
  refine wpAny_bind (wpAny_alloc ?_)
  refine wpAny_bind (wpAny_layCells _ (fun name kind cells => by cases hkc : kind == NameKind.cell <;> simp [hkc]) _ _ _ _ ?_)
  rw [show ({ s with heap := s.heap.push { cls := .type "dict", data := .dict #[] } } : Shared).heap.objs.size = s.heap.objs.size + 1 from Heap.size_push ..]
  simp only [List.forIn_nil]
  exact wpAny_bind (wpAny_pure (wpAny_pure h))
end

section
variable {G : Gd} {cs : Scope} {d : Nat} {m m₁ m₂ m' : Mem} {H H₁ H₂ H₃ H' : Hp} {pos : Pos}

noncomputable def relabelS (scope cs : Scope) : Scope :=
  { scope with names := scope.names.map fun (n, k) => if (k == .free && cs.kind == .function && cs.names.lookup n == some .cell) then (n, .cell) else (n, k) }
theorem relabel_eq {scope cs : Scope} {env : Env} (h : env.scope = cs) : relabel scope env = relabelS scope cs := by
  unfold relabel relabelS Env.kindOf
  rw [h]

/-- the comprehension's own names: the free ones hold what the outer ones hold -/
inductive MF (ns : List (Str × NameKind)) (m : Mem) : List (Str × NameKind) → Mem → Prop
  | nil : MF ns m [] []
  | other {x : Str} {k : NameKind} {o : Option PV} {r : List (Str × NameKind)} {mr : Mem} : k ≠ .free → MF ns m r mr → MF ns m ((x, k) :: r) (o :: mr)
  | free {x : Str} {v : PV} {r : List (Str × NameKind)} {mr : Mem} : (At v x .cell ns m ∨ At v x .free ns m) → MF ns m r mr → MF ns m ((x, .free) :: r) (some v :: mr)
theorem MF.get {ns : List (Str × NameKind)} {r : List (Str × NameKind)} {mr : Mem} (h : MF ns m r mr) {i : Nat} {x : Str} (e : r[i]? = some (x, .free)) : ∃ v, mr[i]? = some (some v) ∧ (At v x .cell ns m ∨ At v x .free ns m) := by
  induction h generalizing i with
  | nil => cases e
  | other hk _ ih => cases i with
    | zero => simp at e; exact absurd e.2 hk
    | succ i => simpa using ih (by simpa using e)
  | free ha _ ih => cases i with
    | zero => simp at e; subst e; exact ⟨_, rfl, ha⟩
    | succ i => simpa using ih (by simpa using e)
/-- at first nothing else is known -/
noncomputable def Init : List (Str × NameKind) → Mem → Prop
  | [], [] => True
  | (_, k) :: r, o :: mr => (k = .free ∨ o = none) ∧ Init r mr
  | _, _ => False
theorem Init.get : ∀ {r : List (Str × NameKind)} {mr : Mem} {i : Nat} {x : Str} {k : NameKind} {v : PV}, Init r mr → r[i]? = some (x, k) → mr[i]? = some (some v) → k = .free
  | [], [], i, x, k, v, _, e, _ => by cases e
  | (y, k') :: r, o :: mr, i, x, k, v, h, e, e' => by
    cases i with
    | zero =>
      simp at e e'
      rcases h.1 with q | q
      · rw [← e.2]; exact q
      · rw [q] at e'; cases e'
    | succ i => exact Init.get h.2 (by simpa using e) (by simpa using e')
  | [], _ :: _, _, _, _, _, h, _, _ => h.elim
  | _ :: _, [], _, _, _, _, h, _, _ => h.elim

theorem Rel.same {env : Env} {ρ : List Addr} {s : Shared} {C : Addr} {h' : Heap} (R : Rel G env ρ m H s) (hs : Heap.SameBut C s.heap h') (h1 : C ∉ ρ) (h2 : ¬ Own env C) (h3 : G.h₀.get? C = none) : Rel G env ρ m H { s with heap := h' } := by
  have c : Chg [C] s.gens.size s { s with heap := h' } := ⟨fun b o hb e => hs.extBut b o (fun q => hb (by simp [q])) e, rfl, Nat.le_refl _, fun _ _ => rfl, fun h => h⟩
  exact R.chg c fun b hb => by rw [List.mem_singleton.mp hb]; exact ⟨h1, h2, h3⟩

theorem get_last' {α : Type} (l : List α) (a : α) : (l ++ [a])[l.length]? = some a := by simp
structure ScopeOK (scope cs : Scope) : Prop where
  kind : scope.kind = .function
  co : scope.isCoroutine = false
  nd : (scope.names.map (·.1)).Nodup
  free : ∀ n, (n, NameKind.free) ∈ scope.names → (n, NameKind.cell) ∈ cs.names ∨ (n, NameKind.free) ∈ cs.names

theorem relabelS_get {scope cs : Scope} {i : Nat} {x : Str} {k : NameKind} (h : (relabelS scope cs).names[i]? = some (x, k)) : ∃ k', scope.names[i]? = some (x, k') ∧ (k' = k ∨ (k' = .free ∧ k = .cell)) := by
  unfold relabelS at h
  dsimp only at h
  rw [List.getElem?_map] at h
  obtain ⟨⟨n, k'⟩, h1, h2⟩ := Option.map_eq_some_iff.mp h
  dsimp only at h2
  split at h2
  · rename_i hc
    cases h2
    simp only [Bool.and_eq_true, beq_iff_eq] at hc
    exact ⟨k', h1, .inr ⟨hc.1.1, rfl⟩⟩
  · cases h2; exact ⟨k, h1, .inl rfl⟩
theorem relabelS_free {scope cs : Scope} {i : Nat} {x : Str} (h : scope.names[i]? = some (x, .free)) : ∃ k, (relabelS scope cs).names[i]? = some (x, k) ∧ (k = .cell ∨ k = .free) := by
  unfold relabelS
  dsimp only
  rw [List.getElem?_map, h]
  dsimp only [Option.map_some]
  split
  · exact ⟨_, rfl, .inl rfl⟩
  · exact ⟨_, rfl, .inr rfl⟩

theorem comp_core {target elt iter : Expr} {ifs : List Expr} {scope : Scope} {items : List ItP} {ok : Hp → Prop} {mI mI' : Mem} (hs : ScopeOK scope cs) (hi : ItbS G cs d m H target iter items ok H₁) (hmf : MF cs.names m scope.names mI) (hin : Init scope.names mI)
    (w : Co G (relabelS scope cs) d target ifs elt ok H₁.length items mI (H₁ ++ [[]]) mI' H') (hmf' : MF cs.names m scope.names mI')
    {env : Env} {A : Around} {ρ : List Addr} {s : Shared} {use : Option (Value → Sem Unit)} {p : Pos} {Q : Value → Shared → Prop} {E : Value → Shared → Prop} (hE : EnvOK cs env) (hA : AOk d A) (R : Rel G env ρ m H s)
    (k : ∀ ρ' s' a C, Stp (Own env) ρ s ρ' s' → Rel G env ρ' m H' s' → ρ'[H₁.length]? = some a → C ∉ ρ' → ¬ Own env C → G.h₀.get? C = none → (∃ mc, s'.heap.Ns C mc) → s.heap.get? C = none → compPost G.M A E use Q (.ref a) C (.ok .next) s')
    (hf : ∀ env x, foldedSetIterable iter env x = pure x := by intro _ _; rfl) :
    wpAny G.M A (comprehension (.ListComp elt [⟨target, iter, ifs, 0⟩] scope pos) scope env p (newList []) false (eval iter env) use) Q E s := by
  have hfr : ∀ n, (n, NameKind.free) ∈ scope.names → ∃ c, env.cells.lookup n = some c := fun n hn => by
    rcases hs.free n hn with h | h
    · exact hE.chas n _ h (.inl rfl)
    · exact hE.chas n _ h (.inr rfl)
  refine wpAny_comprehension_free (g := ⟨target, iter, ifs, 0⟩) (gs := []) rfl (hf env) (closure_eq hfr) hs.kind (fun x hx hl => ?_) ?_
  · obtain ⟨x, kx⟩ := x
    dsimp only at hl
    subst hl
    exact lookup_of_mem hs.nd hx
  refine hi env A ρ s _ E hE hA R fun ρ₁ s₁ I fp St S₁ R₁ W st0 hfp hst0 hfc => ?_
  -- the new list
  refine wpAny_newObj_type ?_ (by size_fits)
  have ha0 := get?_size_none s₁.heap
  have fa := fresh_facts S₁ R₁ ha0
  obtain ⟨R2, S2, c2⟩ := R₁.toRel0.alloc (h' := s₁.heap.push { cls := .type "list", data := .seq ([] : List Value).toArray }) (tk := s₁.toks) (a := s₁.heap.objs.size) (xs := []) (vs := []) (n := 0) (fun b o e => Heap.get?_push_of_some _ e) ha0 (Heap.get?_push_size _ rfl) .nil
  have R2' : Rel G env (ρ₁ ++ [s₁.heap.objs.size]) m (H₁ ++ [[]]) { s₁ with heap := s₁.heap.push { cls := .type "list", data := .seq ([] : List Value).toArray } } := { toRel0 := R2, toFra := R₁.toFra.of_stp S2 }
  have Sa := Rel.trans S₁ R₁ S2.widen
  -- the frame
  refine newCompEnv ?_
  generalize hs2 : ({ s₁ with heap := s₁.heap.push { cls := .type "list", data := .seq ([] : List Value).toArray } } : Shared) = s₂ at R2' Sa ⊢
  generalize hρ : ρ₁ ++ [s₁.heap.objs.size] = ρ₂ at R2' Sa ⊢
  have hC0 := get?_size_none s₂.heap
  have fC := fresh_facts Sa R2' hC0
  have keep3 : ∀ b o, s₂.heap.get? b = some o → (pushCells (s₂.heap.push { cls := .type "dict", data := .dict #[] }) scope.names).get? b = some o := fun b o e => pushCells_keeps _ _ b o (Heap.get?_push_of_some _ e)
  obtain ⟨R3, S3⟩ := R2'.of0 (R2'.toRel0.grow (h' := pushCells (s₂.heap.push { cls := .type "dict", data := .dict #[] }) scope.names) (tk := s₂.toks) keep3)
  have Sb := Rel.trans Sa R2' S3
  have hsz : (s₂.heap.push { cls := .type "dict", data := .dict #[] }).objs.size = s₂.heap.objs.size + 1 := Heap.size_push ..
  -- what the cells are
  have hcell : ∀ x c, (x, c) ∈ cellsFrom (s₂.heap.objs.size + 1) scope.names (clF env scope.names []) → ((x, NameKind.free) ∈ scope.names ∧ env.cells.lookup x = some c) ∨ ((x, NameKind.cell) ∈ scope.names ∧ s₂.heap.objs.size + 1 ≤ c ∧ (pushCells (s₂.heap.push { cls := .type "dict", data := .dict #[] }) scope.names).IsCell c none) := fun x c hm => by
    rw [← hsz] at hm
    rcases cf_mem _ _ _ x c hm with h | ⟨h1, h2, h3⟩
    · rcases clF_mem env scope.names [] x c hfr h with h | h
      · cases h
      · exact .inl h
    · rw [hsz] at h2
      exact .inr ⟨h1, h2, h3⟩
  have hold : ∀ x c, env.cells.lookup x = some c → c < s₂.heap.objs.size := fun x c h => by
    obtain ⟨_, _, _, v, o, ho, _⟩ := R2'.cok x c (Fra.of_stp.mem_of_lookup h)
    exact Heap.lt_size ho
  have hnew : ∀ c, s₂.heap.objs.size ≤ c → s₂.heap.get? c = none := fun c hc => by
    cases q : s₂.heap.get? c with
    | none => rfl
    | some o => exact absurd (Heap.lt_size q) (Nat.not_lt.mpr hc)
  have hlook : ∀ x c, (x, NameKind.free) ∈ scope.names → env.cells.lookup x = some c → (cellsFrom (s₂.heap.objs.size + 1) scope.names (clF env scope.names [])).lookup x = some c := fun x c hx hc => by
    rw [cf_keep]
    · exact clF_look env scope.names [] x c hc (.inl hx)
    · intro hcl
      have h1 := lookup_of_mem hs.nd hx
      have h2 := lookup_of_mem hs.nd hcl
      rw [h1] at h2; cases h2
  -- the comprehension's environment
  have main : ∀ cenv : Env, cenv.scope = relabelS scope cs → cenv.locals = s₂.heap.objs.size → cenv.globals = env.globals → cenv.builtins = env.builtins → cenv.cells = cellsFrom (s₂.heap.objs.size + 1) scope.names (clF env scope.names []) →
      codeAny G.M A (.compStart (.ListComp elt [⟨target, iter, ifs, 0⟩] scope pos) 0 (.ref I) (.ref s₁.heap.objs.size) cenv) (compPost G.M A E use Q (.ref s₁.heap.objs.size) cenv.locals) { s₂ with heap := pushCells (s₂.heap.push { cls := .type "dict", data := .dict #[] }) scope.names } := by
    intro cenv e1 e2 e3 e4 e5
    have hEc : EnvOK (relabelS scope cs) cenv := by
      refine ⟨e1, hs.kind, e3.trans hE.globals, e4.trans hE.builtins, hs.co, ?_, fun x y c hx hy => ?_, fun x kx hx hk => ?_⟩
      · have : (relabelS scope cs).names.map (·.1) = scope.names.map (·.1) := by
          unfold relabelS
          rw [List.map_map]
          apply List.map_congr_left
          rintro ⟨n, k⟩ _
          dsimp only [Function.comp]
          split <;> rfl
        rw [this]; exact hs.nd
      · rw [e5] at hx hy
        refine cf_inj scope.names _ _ (fun x c h => ?_) (fun x y c hx hy => ?_) x y c hx hy
        · rcases clF_mem env scope.names [] x c hfr h with h | h
          · cases h
          · exact Nat.lt_succ_of_lt (hold x c h.2)
        · rcases clF_mem env scope.names [] x c hfr hx with h | h
          · cases h
          · rcases clF_mem env scope.names [] y c hfr hy with h' | h'
            · cases h'
            · exact hE.cinj x y c (Fra.of_stp.mem_of_lookup h.2) (Fra.of_stp.mem_of_lookup h'.2)
      · obtain ⟨i, hi'⟩ := List.getElem?_of_mem hx
        obtain ⟨k', hk', hkk⟩ := relabelS_get hi'
        rw [e5]
        refine cf_look _ _ _ x ?_
        have hm := List.mem_of_getElem? hk'
        have hfree : (x, NameKind.free) ∈ scope.names → ∃ c, (clF env scope.names []).lookup x = some c := fun h => by
          obtain ⟨c, hc⟩ := hfr x h
          exact ⟨c, clF_look env scope.names [] x c hc (.inl h)⟩
        rcases hkk with rfl | ⟨rfl, _⟩
        · rcases hk with rfl | rfl
          · exact .inl hm
          · exact .inr (hfree hm)
        · exact .inr (hfree hm)
    have hFc : Fra G cenv ρ₂ mI { s₂ with heap := pushCells (s₂.heap.push { cls := .type "dict", data := .dict #[] }) scope.names } := by
      refine ⟨by rw [e2]; exact fC.2.2.2, ?_, fun i x kx v hx hk hv => ?_, fun x c hx => ?_, by rw [e2]; exact fC.2.1⟩
      · refine ⟨_, by rw [e2]; exact (Heap.Ns.new s₂.heap (.type "dict")).keeps (pushCells_keeps _ _), fun i x v hx hv => ?_⟩
        rw [e1] at hx
        obtain ⟨k', hk', hkk⟩ := relabelS_get hx
        have := hin.get hk' hv
        rcases hkk with h | ⟨_, h⟩
        · rw [h] at this; cases this
        · cases h
      · rw [e1] at hx
        obtain ⟨k', hk', hkk⟩ := relabelS_get hx
        have hkf := hin.get hk' hv
        subst hkf
        obtain ⟨v', hv', hat⟩ := hmf.get hk'
        rw [hv] at hv'
        cases hv'
        have : ∃ (j : Nat) (kj : NameKind), cs.names[j]? = some (x, kj) ∧ (kj = .cell ∨ kj = .free) ∧ m[j]? = some (some v) := by
          rcases hat with h | h
          · obtain ⟨j, a, b⟩ := h.get; exact ⟨j, _, a, .inl rfl, b⟩
          · obtain ⟨j, a, b⟩ := h.get; exact ⟨j, _, a, .inr rfl, b⟩
        obtain ⟨j, kj, hj1, hj2, hj3⟩ := this
        obtain ⟨c, cv, hl, hcell', hcv⟩ := R3.cel j x kj v (by rw [hE.scope]; exact hj1) hj2 hj3
        exact ⟨c, cv, by rw [e5]; exact hlook x c (List.mem_of_getElem? hk') hl, hcell', hcv⟩
      · rw [e5] at hx
        rcases hcell x c hx with ⟨h1, h2⟩ | ⟨h1, h2, h3⟩
        · obtain ⟨a1, a2, a3, a4⟩ := R3.cok x c (Fra.of_stp.mem_of_lookup h2)
          exact ⟨a1, by rw [e2]; exact Nat.ne_of_lt (hold x c h2), a3, a4⟩
        · have hn := fresh_facts Sa R2' (hnew c (Nat.le_of_succ_le h2))
          exact ⟨hn.2.2.2, by rw [e2]; exact Nat.ne_of_gt h2, hn.2.1, _, h3⟩
    have Rc : Rel G cenv ρ₂ mI (H₁ ++ [[]]) { s₂ with heap := pushCells (s₂.heap.push { cls := .type "dict", data := .dict #[] }) scope.names } := { toRel0 := R3.toRel0, toFra := hFc }
    have hfpl : ∀ b ∈ fp, b < s₁.heap.objs.size := fun b hb => by obtain ⟨_, _, _, _, o, ho⟩ := hfp b hb; exact Heap.lt_size ho
    have hs2k : ∀ b o, s₁.heap.get? b = some o → s₂.heap.get? b = some o := fun b o e => by rw [← hs2]; exact Heap.get?_push_of_some _ e
    have hs2z : s₂.heap.objs.size = s₁.heap.objs.size + 1 := by rw [← hs2]; exact Heap.size_push ..
    have hfpc : ∀ b ∈ fp, b ∉ ρ₂ ∧ ¬ Own cenv b ∧ G.h₀.get? b = none ∧ ∃ o, (pushCells (s₂.heap.push { cls := .type "dict", data := .dict #[] }) scope.names).get? b = some o := fun b hb => by
      obtain ⟨h1, h2, h3, h4, o, ho⟩ := hfp b hb
      have hlt := hfpl b hb
      refine ⟨fun hm => ?_, fun hw => ?_, h4, o, keep3 b o (hs2k b o ho)⟩
      · rw [← hρ] at hm
        rcases List.mem_append.mp hm with h | h
        · exact h2 h
        · rw [List.mem_singleton.mp h] at hlt; exact Nat.lt_irrefl _ hlt
      · rcases hw with q | ⟨x, hx⟩
        · rw [q, e2, hs2z] at hlt; exact Nat.not_lt.mpr (Nat.le_succ _) hlt
        · rw [e5] at hx
          rcases hcell x b hx with ⟨_, q⟩ | ⟨_, q, _⟩
          · exact h3 (.inr ⟨x, Fra.of_stp.mem_of_lookup q⟩)
          · rw [hs2z] at q; exact Nat.lt_irrefl _ (Nat.lt_of_lt_of_le hlt (Nat.le_trans (Nat.le_add_right _ 2) q))
    have st3 : St 0 fp { s₂ with heap := pushCells (s₂.heap.push { cls := .type "dict", data := .dict #[] }) scope.names } := hst0 fp s₁ _ st0 fun b hb o e => keep3 b o (hs2k b o e)
    have hacc : ρ₂[H₁.length]? = some s₁.heap.objs.size := by rw [← hρ, ← R₁.len]; exact get_last' _ _
    have loop := comp_loop (pos := pos) (iter := iter) (scope := scope) (RR := compPost G.M A E use Q (.ref s₁.heap.objs.size) cenv.locals) hEc hA (W _) hfc Rc hacc (by rw [← hρ]; exact List.prefix_append _ _) st3 hfpc w fun ρ' s' S' R' hpre' => by
      -- back in the outer frame
      have hOwn : ∀ b, Own cenv b → b = s₂.heap.objs.size ∨ (∃ x, (x, NameKind.free) ∈ scope.names ∧ env.cells.lookup x = some b) ∨ s₂.heap.get? b = none := fun b hw => by
        rcases hw with q | ⟨x, hx⟩
        · exact .inl (q.trans e2)
        · rw [e5] at hx
          rcases hcell x b hx with ⟨h1, h2⟩ | ⟨h1, h2, h3⟩
          · exact .inr (.inl ⟨x, h1, h2⟩)
          · exact .inr (.inr (hnew b (Nat.le_of_succ_le h2)))
      have houter : ∀ b, Own env b → (∀ x, (x, NameKind.free) ∈ scope.names → env.cells.lookup x ≠ some b) → ∀ o, (pushCells (s₂.heap.push { cls := .type "dict", data := .dict #[] }) scope.names).get? b = some o → s'.heap.get? b = some o := fun b hb hx o e => by
        have hb2 : ∃ o, s₂.heap.get? b = some o := R2'.toFra.alive hb
        refine S'.frame b o (fun hw => ?_) (fun hm => ?_) e
        · rcases hw with hw | hw
          · rcases hOwn b hw with q | ⟨x, h1, h2⟩ | q
            · rw [q, hC0] at hb2; obtain ⟨_, h⟩ := hb2; cases h
            · exact hx x h1 h2
            · rw [q] at hb2; obtain ⟨_, h⟩ := hb2; cases h
          · exact (hfp b hw).2.2.1 hb
        · rcases hb with rfl | ⟨x, hb⟩
          · exact R3.off hm
          · exact (R3.cok x b hb).2.2.1 hm
      have hnotin : ∀ b, Own env b → b ∉ ρ' := fun b hb hm => by
        rcases S'.new b hm with h | h
        · rcases hb with rfl | ⟨x, hb⟩
          · exact R3.off h
          · exact (R3.cok x b hb).2.2.1 h
        · obtain ⟨o, ho⟩ := R3.toFra.alive hb
          rw [ho] at h; cases h
      have hall : Stp (Own env) ρ s ρ' s' := by
        refine ⟨Sb.pre.trans S'.pre, fun b hm => ?_, fun b o hw hb e => ?_, S'.os.trans Sb.os, Nat.le_trans Sb.gsz S'.gsz, fun i hi => (S'.gen i (Nat.lt_of_lt_of_le hi Sb.gsz)).trans (Sb.gen i hi)⟩
        · rcases S'.new b hm with h | h
          · exact Sb.new b h
          · by_cases hbρ : b ∈ ρ
            · exact .inl hbρ
            · refine .inr ?_
              cases q : s.heap.get? b with
              | none => rfl
              | some o =>
                exfalso
                by_cases hw : Own env b
                · obtain ⟨o', ho'⟩ := R3.toFra.alive hw
                  rw [ho'] at h; cases h
                · have := Sb.frame b o hw hbρ q
                  rw [h] at this; cases this
        · refine S'.frame b o (fun hw' => ?_) (fun hm => ?_) (Sb.frame b o hw hb e)
          · rcases hw' with hw' | hw'
            · rcases hOwn b hw' with q | ⟨x, h1, h2⟩ | q
              · have := fC.1; rw [← q] at this; rw [this] at e; cases e
              · exact hw (.inr ⟨x, Fra.of_stp.mem_of_lookup h2⟩)
              · have := (fresh_facts Sa R2' q).1; rw [this] at e; cases e
            · have := (hfp b hw').1; rw [this] at e; cases e
          · rcases Sb.new b hm with h | h
            · exact hb h
            · rw [h] at e; cases e
      have hcap : ∀ x c, (x, NameKind.free) ∈ scope.names → env.cells.lookup x = some c → ∃ v cv, (At v x .cell cs.names m ∨ At v x .free cs.names m) ∧ s'.heap.IsCell c (some cv) ∧ CV ρ' v cv := fun x c hx hc => by
        obtain ⟨i, hi'⟩ := List.getElem?_of_mem hx
        obtain ⟨v, hv, hat⟩ := hmf'.get hi'
        obtain ⟨kx, hk1, hk2⟩ := relabelS_free (cs := cs) hi'
        obtain ⟨c', cv, hl, hcl, hcv⟩ := R'.cel i x kx v (by rw [e1]; exact hk1) hk2 hv
        rw [e5, hlook x c hx hc] at hl
        cases hl
        exact ⟨v, cv, hat, hcl, hcv⟩
      have hAtU : ∀ {v v' : PV} {x : Str} {i : Nat} {kx : NameKind}, cs.names[i]? = some (x, kx) → m[i]? = some (some v) → (At v' x .cell cs.names m ∨ At v' x .free cs.names m) → v' = v := fun {v v' x i kx} h1 h2 h3 => by
        have : ∃ (j : Nat) (kj : NameKind), cs.names[j]? = some (x, kj) ∧ m[j]? = some (some v') := by
          rcases h3 with h | h
          · obtain ⟨j, a, b⟩ := h.get; exact ⟨j, _, a, b⟩
          · obtain ⟨j, a, b⟩ := h.get; exact ⟨j, _, a, b⟩
        obtain ⟨j, kj, a, b⟩ := this
        have hij : i = j := nodup_get hE.nd h1 a
        subst hij
        rw [h2] at b
        cases b; rfl
      have hF : Fra G env ρ' m s' := by
        refine ⟨R3.above, ?_, fun i x kx v hx hk hv => ?_, fun x c hx => ?_, hnotin _ (.inl rfl)⟩
        · obtain ⟨mc, hn, hm⟩ := R3.ns
          refine ⟨mc, hn.at' fun o e => houter _ (.inl rfl) (fun x h1 h2 => ?_) o e, fun i x v hx hv => let ⟨cv, e, h⟩ := hm i x v hx hv; ⟨cv, e, h.mono S'.pre⟩⟩
          exact (R3.cok x _ (Fra.of_stp.mem_of_lookup h2)).2.1 rfl
        · obtain ⟨c, cv, hl, ⟨o, ho, hd⟩, hcv⟩ := R3.cel i x kx v hx hk hv
          by_cases hcp : ∃ x', (x', NameKind.free) ∈ scope.names ∧ env.cells.lookup x' = some c
          · obtain ⟨x', h1, h2⟩ := hcp
            have hxx : x' = x := hE.cinj x' x c (Fra.of_stp.mem_of_lookup h2) (Fra.of_stp.mem_of_lookup hl)
            subst hxx
            obtain ⟨v', cv', hat, hcl, hcv'⟩ := hcap x' c h1 h2
            have := hAtU (by rw [← hE.scope]; exact hx) hv hat
            subst this
            exact ⟨c, cv', hl, hcl, hcv'⟩
          · exact ⟨c, cv, hl, ⟨o, houter c (.inr ⟨x, Fra.of_stp.mem_of_lookup hl⟩) (fun x' h1 h2 => hcp ⟨x', h1, h2⟩) o ho, hd⟩, hcv.mono S'.pre⟩
        · obtain ⟨h1, h2, h3, v, o, ho, hd⟩ := R3.cok x c hx
          refine ⟨h1, h2, hnotin c (.inr ⟨x, hx⟩), ?_⟩
          by_cases hcp : ∃ x', (x', NameKind.free) ∈ scope.names ∧ env.cells.lookup x' = some c
          · obtain ⟨x', h1, h2⟩ := hcp
            obtain ⟨v', cv', hat, hcl, hcv'⟩ := hcap x' c h1 h2
            exact ⟨_, hcl⟩
          · exact ⟨v, o, houter c (.inr ⟨x, hx⟩) (fun x' h1 h2 => hcp ⟨x', h1, h2⟩) o ho, hd⟩
      have hns' : ∃ mc, s'.heap.Ns cenv.locals mc := let ⟨mc, hn, _⟩ := R'.ns; ⟨mc, hn⟩
      exact k ρ' s' s₁.heap.objs.size cenv.locals hall { toRel0 := R'.toRel0, toFra := hF } (prefix_get hpre' hacc) R'.off (by rw [e2]; exact fC.2.2.1) (by rw [e2]; exact fC.2.2.2) hns' (by rw [e2]; exact fC.1)
    exact codeAny_compStart_list loop ((W 0).self _ fp _ _ st3 loop)
  rw [relabel_eq hE.scope]
  exact main _ rfl rfl rfl rfl rfl

theorem sameChg {s : Shared} {C : Addr} {h' : Heap} (hs : Heap.SameBut C s.heap h') (g : Nat) : Chg [C] g s { s with heap := h' } :=
  ⟨fun b o hb e => hs.extBut b o (fun q => hb (by simp [q])) e, rfl, Nat.le_refl _, fun _ _ => rfl, fun h => h⟩

theorem Ev.comp {target elt iter : Expr} {ifs : List Expr} {scope : Scope} {items : List ItP} {ok : Hp → Prop} {mI mI' : Mem} (hs : ScopeOK scope cs) (hi : ItbS G cs d m H target iter items ok H₁) (hmf : MF cs.names m scope.names mI) (hin : Init scope.names mI)
    (w : Co G (relabelS scope cs) d target ifs elt ok H₁.length items mI (H₁ ++ [[]]) mI' H') (hmf' : MF cs.names m scope.names mI') (hf : ∀ env x, foldedSetIterable iter env x = pure x := by intro _ _; rfl) :
    Ev G cs d m H (.ListComp elt [⟨target, iter, ifs, 0⟩] scope pos) (.ref H₁.length) H' := fun env A ρ s Q E hE hA R k => by
  show wpAny G.M A (eval (.ListComp elt [⟨target, iter, ifs, 0⟩] scope pos) env) Q E s
  rw [eval_ListComp]
  refine comp_core (use := none) hs hi hmf hin w hmf' hE hA R (fun ρ' s' a C S R' ha hCρ hCo hC0 hn hCs => ?_) hf
  obtain ⟨mc, hn⟩ := hn
  refine ⟨mc, hn, fun h' hsb => ?_⟩
  exact k ρ' _ _ (S.chg (sameChg hsb _) fun b hb => by rw [List.mem_singleton.mp hb]; exact hCs) (R'.same hsb hCρ hCo hC0) (.ref ha)

theorem Es.assignComp {y : Str} {py spos : Pos} {target elt iter : Expr} {ifs : List Expr} {scope : Scope} {items : List ItP} {ok : Hp → Prop} {mI mI' : Mem} (hs : ScopeOK scope cs) (hi : ItbS G cs d m H target iter items ok H₁) (hmf : MF cs.names m scope.names mI) (hin : Init scope.names mI)
    (w : Co G (relabelS scope cs) d target ifs elt ok H₁.length items mI (H₁ ++ [[]]) mI' H') (hmf' : MF cs.names m scope.names mI') (hp : Put (.ref H₁.length) y .local cs.names m m') (hf : ∀ env x, foldedSetIterable iter env x = pure x := by intro _ _; rfl)
    (hsw : ∀ env, env.scope = cs → env.kindOf y = some .local → swapsWith (.ListComp elt [⟨target, iter, ifs, 0⟩] scope pos) (some (.Name y py)) spos.line env = pure true) :
    Es G cs d m H (.Assign [.Name y py] (.ListComp elt [⟨target, iter, ifs, 0⟩] scope pos) spos) .next m' H' := fun env A ρ s Q E hE hA R k => by
  obtain ⟨iy, hy, _, _⟩ := hp.get
  show wpAny G.M A (exec (.Assign [.Name y py] (.ListComp elt [⟨target, iter, ifs, 0⟩] scope pos) spos) env) Q E s
  rw [exec_Assign_Name_used _ _ _ _ (hsw env hE.scope (hE.kindOf (List.mem_of_getElem? hy)))]
  refine wpAny_bind (wpAny_standAt (wpAny_bind ?_))
  show wpAny _ A (do let _ ← comprehension (.ListComp elt [⟨target, iter, ifs, 0⟩] scope pos) scope env _ (newList []) false (eval iter env) (some (PySem.assign (.Name y py) env))) _ _ s
  refine wpAny_bind (wpAny_mono (comp_core (use := some (PySem.assign (.Name y py) env)) (Q := fun _ s' => Q .next s') hs hi hmf hin w hmf' hE hA R (fun ρ' s' a C S R' ha hCρ hCo hC0 hn hCs => ?_) hf) (fun _ s' hq => wpAny_pure (wpAny_pure hq)) fun _ _ e => e)
  obtain ⟨mc, hn⟩ := hn
  refine wpAny_assign_Name (store_local hE R' hp (.ref ha) fun s2 S2 R2 => ?_)
  refine ⟨mc, hn.at' fun o e => S2.frame C o hCo hCρ e, fun h' hsb => ?_⟩
  exact k ρ' _ _ ((Rel.trans S R' S2).chg (sameChg hsb _) fun b hb => by rw [List.mem_singleton.mp hb]; exact hCs) (R2.same hsb hCρ hCo hC0) .next

/-- a name that is a cell, filled -/
theorem store_cell' {env : Env} {A : Around} {ρ : List Addr} {s : Shared} {Q : Unit → Shared → Prop} {E : Value → Shared → Prop} {x : Str} {v : PV} {cv : Value} (hE : EnvOK cs env) (R : Rel G env ρ m H s) (hp : Put v x .cell cs.names m m') (hc : CV ρ v cv)
    (k : ∀ s', Stp (Own env) ρ s ρ s' → Rel G env ρ m' H s' → Q () s') : wpAny G.M A (storeName env x cv) Q E s := by
  obtain ⟨i, hi, _, _⟩ := hp.get
  obtain ⟨c, hl⟩ := hE.chas x _ (List.mem_of_getElem? hi) (.inl rfl)
  exact store_cell hE R hp hc hl (fun y hy => hE.cinj y x c hy (Fra.of_stp.mem_of_lookup hl)) k
theorem Asg.cell {x : Str} {v : PV} (hp : Put v x .cell cs.names m m') : Asg G cs d (.Name x pos) (.of v) m H m' := fun env A ρ s cv Q E hE hA R hc k =>
  wpAny_assign_Name (store_cell' hE R hp hc fun s' S R' => k s' S R')
theorem Es.assignC {x : Str} {p : Pos} {value : Expr} {v : PV} (h : Ev G cs d m H value v H₁) (hp : Put v x .cell cs.names m m')
    (hs : ∀ env, env.scope = cs → env.kindOf x = some .cell → swapsWith value (some (.Name x p)) pos.line env = pure false) : Es G cs d m H (.Assign [.Name x p] value pos) .next m' H₁ := fun env A ρ s Q E hE hA R k => by
  obtain ⟨i, hi, _, _⟩ := hp.get
  exact wpAny_Assign_Name (h env A ρ s _ E hE hA R fun ρ₁ s₁ c S₁ R₁ hc => store_cell' hE R₁ hp hc fun s₂ S₂ R₂ => k ρ₁ s₂ _ (Rel.trans S₁ R₁ S₂) R₂ .next) (hs env hE.scope (hE.kindOf (List.mem_of_getElem? hi)))

/-- a comprehension's loop, by what holds before each turn -/
theorem co_inv {target elt : Expr} {ifs : List Expr} {ok : Hp → Prop} {nA : Nat} (I : Nat → Mem → Hp → Prop) {items : List ItP} (hok : ∀ k m H, I k m H → ok H)
    (hstep : ∀ k P m H, items[k]? = some P → I k m H → ∃ m₁, Asg G cs d target P m H m₁ ∧ ((∃ H₁ H₂ v ys, Ts G cs d ifs m₁ H true H₁ ∧ Ev G cs d m₁ H₁ elt v H₂ ∧ H₂[nA]? = some ys ∧ ys.length ≤ sizeLine ∧ I (k + 1) m₁ (H₂.set nA (ys ++ [v]))) ∨ (∃ H₁, Ts G cs d ifs m₁ H false H₁ ∧ I (k + 1) m₁ H₁))) :
    ∀ (its : List ItP) (k : Nat) (m : Mem) (H : Hp), items.drop k = its → I k m H → ∃ m' H', Co G cs d target ifs elt ok nA its m H m' H' ∧ I (k + its.length) m' H'
  | [], k, m, H, hd, hi => ⟨m, H, .done (hok _ _ _ hi), hi⟩
  | P :: r, k, m, H, hd, hi => by
    have hget : items[k]? = some P := by
      have := congrArg (·[0]?) hd
      simpa using this
    have hdrop : items.drop (k + 1) = r := by
      have := congrArg (List.drop 1) hd
      simpa [List.drop_drop, Nat.add_comm] using this
    have e : k + (r.length + 1) = k + 1 + r.length := by (first | lia | omega)
    obtain ⟨m₁, ha, (⟨H₁, H₂, v, ys, h1, h2, h3, h4, h5⟩ | ⟨H₁, h1, h5⟩)⟩ := hstep k P m H hget hi
    · obtain ⟨m', H', w, hI⟩ := co_inv I hok hstep r (k + 1) m₁ _ hdrop h5
      exact ⟨m', H', .emit (hok _ _ _ hi) ha h1 h2 h3 h4 w, by rw [List.length_cons, e]; exact hI⟩
    · obtain ⟨m', H', w, hI⟩ := co_inv I hok hstep r (k + 1) m₁ _ hdrop h5
      exact ⟨m', H', .skip (hok _ _ _ hi) ha h1 w, by rw [List.length_cons, e]; exact hI⟩
end

local macro_rules | `(tactic| walk_at "ux mf") => `(tactic| (repeat (first | exact MF.nil | (refine MF.other (by decide) ?_) | (refine MF.free (.inl (by (repeat (first | exact At.head | apply At.tail)); done)) ?_) | (refine MF.free (.inr (by (repeat (first | exact At.head | apply At.tail)); done)) ?_))))
section
variable {G : Gd} {cs : Scope} {d : Nat} {m m₁ m₂ m' : Mem} {H H₁ H₂ H₃ H' : Hp} {pos : Pos}

theorem canLay_ints : ∀ ns : List Int, PyData.canLayAll0 (ns.map PyData.int) = true
  | [] => by simp [PyData.canLayAll0]
  | n :: r => by simp [PyData.canLayAll0, PyData.canLay0, canLay_ints r]
theorem canLay_ll : ∀ nss : List (List Int), PyData.canLayAll0 (nss.map fun ns => PyData.list (ns.map PyData.int)) = true
  | [] => by simp [PyData.canLayAll0]
  | n :: r => by simp [PyData.canLayAll0, PyData.canLay0, canLay_ints, canLay_ll r]
theorem depth_ints : ∀ ns : List Int, PyData.depthAll (ns.map PyData.int) = 0
  | [] => by simp [PyData.depthAll]
  | n :: r => by simp [PyData.depthAll, PyData.depth, depth_ints r]
theorem depth_ll : ∀ nss : List (List Int), PyData.depthAll (nss.map fun ns => PyData.list (ns.map PyData.int)) ≤ 1
  | [] => by simp [PyData.depthAll]
  | n :: r => by
    have := depth_ll r
    simp [PyData.depthAll, PyData.depth, depth_ints]
    (first | lia | omega)
theorem shaped_lls (nss : List (List Int)) : SeqAt.shaped (.list (nss.map fun ns => PyData.list (ns.map PyData.int))) = true := by
  unfold SeqAt.shaped
  have := depth_ll nss
  simp only [PyData.canLay0, canLay_ll, PyData.depth, Bool.true_and]
  exact decide_eq_true (by (first | lia | omega))
/-- two lists of lists of ints that hold the same are not unlike -/
theorem op_ne_ll {i j : Nat} {xs ys : List PV} {nss : List (List Int)} (hi : H[i]? = some xs) (hx : LLs H xs nss) (hj : H[j]? = some ys) (hy : LLs H ys nss) : OpR G d (compareOp .NotEq) (.ref i) (.ref j) H (.bool false) H := fun A ρ s ca cb Q E hA R h1 h2 k => by
  cases h1 with
  | ref e1 =>
  obtain ⟨_, rfl, e2⟩ := h2.refE
  obtain ⟨vs, n1, g1, c1⟩ := R.at hi e1
  obtain ⟨us, n2, g2, c2⟩ := R.at hj e2
  obtain ⟨as, ra⟩ := LLs.reads R hx c1
  obtain ⟨bs, rb⟩ := LLs.reads R hy c2
  refine ne_dataH (.list g1 rfl rfl ra) (.list g2 rfl rfl rb) (shaped_lls nss) (shaped_lls nss) (by have := hA.2.2; (first | lia | omega)) ?_
  rw [PySem.SeqAt.eqv_refl _ (by have := shaped_lls nss; unfold SeqAt.shaped at this; exact (Bool.and_eq_true_iff.mp this).1)]
  exact k ρ s _ (Stp.refl _ _ _) R (.bool _)

/-- two lists put together -/
theorem op_cat_list {i j : Nat} {xs ys : List PV} (hi : H[i]? = some xs) (hj : H[j]? = some ys) (hz : xs.length + ys.length ≤ sizeLine) : OpR G d (binaryOp .Add) (.ref i) (.ref j) H (.ref H.length) (H ++ [xs ++ ys]) := fun A ρ s ca cb Q E hA R h1 h2 k => by
  cases h1 with
  | ref e1 =>
  obtain ⟨_, rfl, e2⟩ := h2.refE
  obtain ⟨vs, n1, g1, c1⟩ := R.at hi e1
  obtain ⟨us, n2, g2, c2⟩ := R.at hj e2
  refine P.add_list g1 g2 ?_ (by rw [List.size_toArray, List.size_toArray, c1.length, c2.length]; exact hz)
  obtain ⟨R2, S2, cc⟩ := R.alloc (h' := s.heap.push { cls := .type "list", data := .seq (vs.toArray ++ us.toArray) }) (tk := s.toks) (a := s.heap.objs.size) (vs := vs ++ us) (n := 0) (fun b o e => Heap.get?_push_of_some _ e) (get?_size_none _) (by rw [Heap.get?_push_size _ rfl]; simp) (c1.append c2)
  exact k _ _ _ S2 R2 cc

theorem cvs_of_ints {ρ : List Addr} {vs : List Value} {ns : List Int} (h : IntsAre vs ns) : CVs ρ (ns.map PV.int) vs := by
  induction h with
  | nil => exact .nil
  | cons n t _ ih => exact .cons (.int n t) ih
/-- a slice of a list of ints that lay there before -/
theorem Ev.sliceBase {value st : Expr} {lo hi : Option Expr} {p : Pos} {l : Addr} {vs : List Value} {ns : List Int} {a b : Option Int} {c : Int} (hl : G.h₀.IsList l vs.toArray) (hI : IntsAre vs ns) (hv : Ev G cs d m H value (.glob (.ref l)) H) (ha : EvP G cs d m H lo a) (hb : EvP G cs d m H hi b) (hc : Ev G cs d m H st (.int c) H) (hc0 : c ≠ 0) (hz : ns.length ≤ sizeLine)
    (ht : ∀ o r, letTemporaryGo value o r = pure () := by intro _ _; rfl) : Ev G cs d m H (.Subscript value (.Slice lo hi (some st) p) pos) (.ref H.length) (H ++ [(pickL ns a b (some c)).map PV.int]) := fun env A ρ s Q E hE hA R k =>
  wpAny_Subscript_Slice_step (T := "list") list_getitem_lookup (hv env A ρ s _ E hE hA R fun ρ₁ s₁ ca S₁ R₁ c₁ => wpAny_Slice (ha env A ρ₁ s₁ _ E hE hA R₁ fun ρ₂ s₂ vl S₂ R₂ pl => hb env A ρ₂ s₂ _ E hE hA R₂ fun ρ₃ s₃ vu S₃ R₃ pu => by
    rw [evalPart_some]
    refine hc env A ρ₃ s₃ _ E hE hA R₃ fun ρ₄ s₄ vc S₄ R₄ pc => ?_
    obtain ⟨tc, rfl⟩ := pc.intE
    cases c₁
    have hl4 : s₄.heap.IsList l vs.toArray := hl.at fun o e => R₄.keep l o e
    have hcv : CVs ρ₄ (ns.map PV.int) vs := cvs_of_ints hI
    refine ⟨(hl4.push _).typeIs, wpAny_getItem_list_slice (hl4.push _) (Heap.IsSliceOf.new ..) pl pu (.int c tc) (by simpa using hc0) ?_ (by rw [List.size_toArray, hcv.length, List.length_map]; exact hz)⟩
    have hn : s₄.heap.get? (s₄.heap.objs.size + 1) = none := get?_size1_none _
    have hp := pushed2 s₄.heap { cls := .type "slice", data := .fields #[vl, vu, .int c tc] } (slicePick (List.toArray vs) a b (some c))
    obtain ⟨R5, S5, c5⟩ := R₄.toRel0.alloc (tk := s₄.toks) (fun b o e => Heap.get?_push_of_some _ (Heap.get?_push_of_some _ e)) hn hp (hcv.pickL a b (some c))
    rw [Heap.size_push]
    rw [pickL_map] at R5
    exact k _ _ _ (Rel.trans (Rel.trans (Rel.trans (Rel.trans S₁ R₁ S₂) R₂ S₃) R₃ S₄) R₄ S5.widen) { toRel0 := R5, toFra := R₄.toFra.of_stp S5 } c5)) ht

theorem draw_list {A : Around} {E : Value → Shared → Prop} {it t : Addr} {items : Array Value} (hne : t ≠ it) : ∀ (n i : Nat) (s : Shared) (Q : List Value → Shared → Prop), s.heap.IsListIter it t i → s.heap.IsList t items → i + n ≤ items.size →
    (∀ h', h'.IsListIter it t (i + n) → Heap.SameBut it s.heap h' → Q ((items.toList.drop i).take n) { s with heap := h' }) → wpAny G.M A (draw (.ref it) n) Q E s
  | 0, i, s, Q, hit, _, _, hQ => by
    show wpAny _ _ (pure []) Q E s
    exact wpAny_pure (by simpa using hQ s.heap hit (Heap.SameBut.refl ..))
  | n + 1, i, s, Q, hit, ht, hle, hQ => by
    have hlt : i < items.size := by (first | lia | omega)
    show wpAny _ _ (pyNext (.ref it) >>= _) Q E s
    refine wpAny_bind (wpAny_pyNext_list_item hit ht (x := items[i]) (by simp [hlt]) fun h₁ hit₁ hs₁ => ?_)
    refine wpAny_bind (wpAny_holding (draw_list hne n (i + 1) _ _ hit₁ (ht.extBut hs₁.extBut hne) (by (first | lia | omega)) fun h₂ hit₂ hs₂ => wpAny_pure ?_))
    have hd : items.toList.drop i = items[i] :: items.toList.drop (i + 1) := by simp [List.drop_eq_getElem_cons, hlt]
    have := hQ h₂ (by rw [show i + (n + 1) = i + 1 + n by (first | lia | omega)]; exact hit₂) (hs₁.trans hs₂)
    rw [hd, List.take_succ_cons] at this
    exact this
theorem unpackItems_list {A : Around} {E : Value → Shared → Prop} {s : Shared} {t : Addr} {items : Array Value} {Q : List Value → Shared → Prop} (hh : A.handled = none) (ht : s.heap.IsList t items)
    (hQ : ∀ h', Heap.ExtBut s.heap.objs.size s.heap h' → Q items.toList { s with heap := h' }) : wpAny G.M A (unpackItems (.ref t) items.size none) Q E s := by
  have hlt : t ≠ s.heap.objs.size := by obtain ⟨o, ho, _⟩ := ht; exact Nat.ne_of_lt (Heap.lt_size ho)
  unfold unpackItems
  refine wpAny_bind ?_
  · unfold notIterableAtAll
    refine wpAny_bind (wpAny_specialOf ht.typeIs slot_list_iter.lookup ?_)
    refine wpAny_pure ?_
    simp only [Bool.false_eq_true, if_false]
    refine wpAny_bind (wpAny_holding (wpAny_pyIter_list ht ?_))
    refine wpAny_bind (wpAny_holding (draw_list hlt items.size 0 _ _ ⟨_, Heap.get?_push_size _ rfl, rfl, rfl⟩ (ht.push _) (by (first | lia | omega)) fun h₁ hit₁ hs₁ => ?_))
    have hall : List.take items.size (List.drop 0 items.toList) = items.toList := by
      rw [List.drop_zero]; exact List.take_of_length_le (by simp)
    rw [hall]
    rw [if_neg (by simp)]
    have ht₁ : h₁.IsList t items := (ht.push _).extBut hs₁.extBut hlt
    refine wpAny_bind (wpAny_holding (wpAny_pyNext_list_end hh hit₁ ht₁ (by simp) fun h₂ he₂ => ?_))
    simp only [Option.isSome_none, Bool.false_eq_true, if_false]
    refine wpAny_pure (hQ h₂ fun b o hb e => he₂ b o hb (hs₁.extBut b o hb (Heap.get?_push_of_some _ e)))
theorem Asg.pairL {x y : Str} {p1 p2 : Pos} {tk n : Nat} {a b : PV} (hg : H[n]? = some [a, b]) (hx : Put a x .local cs.names m m₁) (hy : Put b y .local cs.names m₁ m') : Asg G cs d (.Tuple [.Name x p1, .Name y p2] tk pos) (.of (.ref n)) m H m' := fun env A ρ s cv Q E hE hA R hc k => by
  cases hc with
  | ref e =>
  rename_i t
  obtain ⟨vs, hl, hcv⟩ := (R.toRel0.at hg e).isList
  cases hcv with
  | cons ha h =>
  obtain ⟨_, _, rfl, hb, h⟩ := h.consE
  cases h
  rw [arm_assign_Tuple]
  refine wpAny_bind (wpAny_standAt ?_)
  unfold unpack
  refine wpAny_bind (wpAny_holding (unpackItems_list (items := #[_, _]) hA.1 hl fun h' hx' => ?_))
  obtain ⟨R1, S1⟩ := R.extBut hx'
  exact asg_two hE R1 hx hy ha hb fun s' S' R' => k s' (Rel.trans S1 R1 S') R'

theorem pre_set' {α : Type} {l l' : List α} {n : Nat} {a : α} (h : l <+: l') (hn : l.length ≤ n) : l <+: l'.set n a := pre_set h hn

/-- a comprehension without a filter, item by item -/
theorem co1 {τ : Type} {csI : Scope} {target elt : Expr} {ok : Hp → Prop} {items : List ItP} (ts : List τ) (Mf : Option τ → Mem) (Res : Nat → PV → Hp → Prop) (hlen : items.length = ts.length) (hz : ts.length ≤ 1000)
    (hasg : ∀ (k : Nat) P t o H, items[k]? = some P → ts[k]? = some t → Asg G csI d target P (Mf o) H (Mf (some t))) (hok : ∀ H', H₁ <+: H' → ok H')
    (hmono : ∀ (k : Nat) r H H', (∀ (i : Nat) v, i ≠ H₁.length → H[i]? = some v → H'[i]? = some v) → Res k r H → Res k r H')
    (helt : ∀ (k : Nat) t H', ts[k]? = some t → H₁ <+: H' → H₁.length < H'.length → ∃ r H'', Ev G csI d (Mf (some t)) H' elt r H'' ∧ H' <+: H'' ∧ Res k r H'') :
    ∃ o H' rs, Co G csI d target [] elt ok H₁.length items (Mf none) (H₁ ++ [[]]) (Mf o) H' ∧ H₁ <+: H' ∧ H₁.length < H'.length ∧ H'[H₁.length]? = some rs ∧ rs.length = ts.length ∧ ∀ (k : Nat) r, rs[k]? = some r → Res k r H' := by
  have hsl : sizeLine = 16777216 := by decide +kernel
  obtain ⟨m', H', w, ⟨o, rfl⟩, h1, hlt, rs, h2, h3, h4⟩ := co_inv (G := G) (cs := csI) (d := d) (target := target) (ifs := []) (elt := elt) (ok := ok) (nA := H₁.length)
    (fun k m H' => (∃ o, m = Mf o) ∧ H₁ <+: H' ∧ H₁.length < H'.length ∧ ∃ rs, H'[H₁.length]? = some rs ∧ rs.length = k ∧ ∀ (j : Nat) r, rs[j]? = some r → Res j r H') (items := items) (fun k m H h => hok H h.2.1) (fun k P m H hget hI => by
      obtain ⟨⟨o, rfl⟩, h1, hlt, rs, h2, h3, h4⟩ := hI
      have hk : k < ts.length := hlen ▸ (List.getElem?_eq_some_iff.mp hget).1
      have ht := List.getElem?_eq_getElem hk
      refine ⟨_, hasg k P _ o H hget ht, .inl ?_⟩
      obtain ⟨r, H'', he, hp, hr⟩ := helt k _ H ht h1 hlt
      have hlt' : H₁.length < H''.length := Nat.lt_of_lt_of_le hlt hp.length_le
      refine ⟨H, H'', r, rs, .nil, he, prefix_get hp h2, by rw [hsl]; (first | lia | omega), ⟨_, rfl⟩, pre_set' (h1.trans hp) (Nat.le_refl _), by rw [List.length_set]; exact hlt', rs ++ [r], by rw [List.getElem?_set_self hlt'], by simp [h3], fun j r' hj => ?_⟩
      have hset : ∀ (i : Nat) (v : List PV), i ≠ H₁.length → H''[i]? = some v → (H''.set H₁.length (rs ++ [r]))[i]? = some v := fun i v hi e => by rw [List.getElem?_set_ne (Ne.symm hi)]; exact e
      by_cases hjl : j < rs.length
      · rw [List.getElem?_append_left hjl] at hj
        exact hmono _ _ H _ (fun i v hi e => hset i v hi (prefix_get hp e)) (h4 j r' hj)
      · have hje : j = rs.length := by
          have := (List.getElem?_eq_some_iff.mp hj).1
          rw [List.length_append, List.length_singleton] at this
          (first | lia | omega)
        subst hje
        have : r' = r := by simpa using hj.symm
        subst this
        rw [h3]
        exact hmono _ _ H'' _ hset hr) items 0 (Mf none) (H₁ ++ [[]]) rfl ⟨⟨none, rfl⟩, List.prefix_append _ _, by simp, [], get_last _ _, rfl, fun j r h => by simp at h⟩
  exact ⟨o, H', rs, w, h1, hlt, h2, by (first | lia | omega), h4⟩

/-- a comprehension that picks numbers -/
theorem co_filter {csI : Scope} {target elt c : Expr} {ok : Hp → Prop} (ts : List Int) (b : Int → Bool) (Mf : Option Int → Mem) (hz : ts.length ≤ 1000)
    (hasg : ∀ t o H, Asg G csI d target (.of (.int t)) (Mf o) H (Mf (some t))) (hok : ∀ H', H₁ <+: H' → ok H')
    (htest : ∀ t H', t ∈ ts → H₁ <+: H' → Tr G csI d (Mf (some t)) H' c (b t) H') (helt : ∀ t H', Ev G csI d (Mf (some t)) H' elt (.int t) H') :
    ∃ o H', Co G csI d target [c] elt ok H₁.length (ts.map fun t => ItP.of (.int t)) (Mf none) (H₁ ++ [[]]) (Mf o) H' ∧ H₁ <+: H' ∧ H'[H₁.length]? = some ((ts.filter b).map PV.int) := by
  have hsl : sizeLine = 16777216 := by decide +kernel
  obtain ⟨m', H', w, ⟨o, rfl⟩, h1, hlt, h2⟩ := co_inv (G := G) (cs := csI) (d := d) (target := target) (ifs := [c]) (elt := elt) (ok := ok) (nA := H₁.length)
    (fun k m H' => (∃ o, m = Mf o) ∧ H₁ <+: H' ∧ H₁.length < H'.length ∧ H'[H₁.length]? = some (((ts.take k).filter b).map PV.int)) (items := ts.map fun t => ItP.of (.int t)) (fun k m H h => hok H h.2.1) (fun k P m H hget hI => by
      obtain ⟨⟨o, rfl⟩, h1, hlt, h2⟩ := hI
      rw [List.getElem?_map] at hget
      obtain ⟨t, ht, rfl⟩ := Option.map_eq_some_iff.mp hget
      have hmem := List.mem_of_getElem? ht
      have htk : ts.take (k + 1) = ts.take k ++ [t] := by rw [List.take_add_one, ht]; rfl
      have hlen : ((ts.take k).filter b).length ≤ ts.length := Nat.le_trans (List.length_filter_le _ _) (by rw [List.length_take]; (first | lia | omega))
      refine ⟨_, hasg t o H, ?_⟩
      cases hb : b t with
      | true =>
        refine .inl ⟨H, H, _, _, .one ((htest t H hmem h1).of hb), helt t H, h2, by rw [List.length_map, hsl]; (first | lia | omega), ⟨_, rfl⟩, pre_set' h1 (Nat.le_refl _), by rw [List.length_set]; exact hlt, ?_⟩
        rw [List.getElem?_set_self hlt, htk, List.filter_append, List.map_append]
        simp [hb]
      | false =>
        refine .inr ⟨H, .one ((htest t H hmem h1).of hb), ⟨_, rfl⟩, h1, hlt, ?_⟩
        rw [h2, htk, List.filter_append]
        simp [hb]) (ts.map fun t => ItP.of (.int t)) 0 (Mf none) (H₁ ++ [[]]) rfl ⟨⟨none, rfl⟩, List.prefix_append _ _, by simp, get_last _ _⟩
  refine ⟨o, H', w, h1, ?_⟩
  rw [h2]
  simp
end

section
variable {G : Gd} {cs : Scope} {d : Nat} {m m₁ m₂ m' : Mem} {H H₁ H₂ H₃ H' : Hp} {pos : Pos}

theorem ScopeOK.of {scope cs : Scope} (h1 : scope.kind = .function) (h2 : scope.isCoroutine = false) (h3 : (scope.names.map (·.1)).Nodup) (h4 : (scope.names.all fun p => !(p.2 == .free) || cs.names.any fun q => q.1 == p.1 && (q.2 == .cell || q.2 == .free)) = true) : ScopeOK scope cs := by
  refine ⟨h1, h2, h3, fun n hn => ?_⟩
  have := List.all_eq_true.mp h4 _ hn
  simp only [beq_self_eq_true, Bool.not_true, Bool.false_or] at this
  obtain ⟨⟨y, k⟩, hq, hc⟩ := List.any_eq_true.mp this
  simp only [Bool.and_eq_true, Bool.or_eq_true, beq_iff_eq] at hc
  obtain ⟨rfl, rfl | rfl⟩ := hc
  · exact .inl hq
  · exact .inr hq

/-- an expression, with a word on what it gives -/
noncomputable def EvE (G : Gd) (cs : Scope) (d : Nat) (m : Mem) (H : Hp) (e : Expr) (P : PV → Hp → Prop) : Prop := ∃ v H', Ev G cs d m H e v H' ∧ P v H'
noncomputable def TrE (G : Gd) (cs : Scope) (d : Nat) (m : Mem) (H : Hp) (e : Expr) (P : Bool → Hp → Prop) : Prop := ∃ b H', Tr G cs d m H e b H' ∧ P b H'
variable {P Q : PV → Hp → Prop} {Post : PF → Mem → Hp → Prop} {sts : List Stmt}
theorem EvE.ev {e : Expr} {v : PV} (h : Ev G cs d m H e v H₁) (hp : P v H₁) : EvE G cs d m H e P := ⟨v, H₁, h, hp⟩
theorem EvE.callB1 {fe e : Expr} {id : String} (hf : Ev G cs d m H fe (.glob (.builtin id)) H₁) (ha : EvE G cs d m H₁ e Q) (hc : ∀ v H', Q v H' → ∃ r H'', Cl G d (.builtin id) [v] H' r H'' ∧ P r H'') (hp : [e].all plainE = true := by rfl)
    (he : ∀ env, eval (.Call fe [e] [] pos) env = (do callWith pos (← eval fe env) [] (backTo pos (starEach [e] env)) (backToKw pos (keywordEach [] env))) := by intro env; rfl) : EvE G cs d m H (.Call fe [e] [] pos) P := by
  obtain ⟨v, H', h1, h2⟩ := ha
  obtain ⟨r, H'', h3, h4⟩ := hc v H' h2
  have hp' : plainE e = true := by simpa using hp
  exact ⟨r, H'', Ev.callB hf (Evs.cons h1 Evs.nil hp') h3 hp he, h4⟩
theorem EvE.bin {l r : Expr} {op : Operator} {Q' : PV → PV → Hp → Prop} (hl : EvE G cs d m H l Q) (hr : ∀ a H', Q a H' → EvE G cs d m H' r (Q' a)) (ho : ∀ a b H', Q' a b H' → ∃ v, Op2 G (binaryOp op) a b v ∧ P v H') : EvE G cs d m H (.BinOp l op r pos) P := by
  obtain ⟨a, H1, h1, q1⟩ := hl
  obtain ⟨b, H2, h2, q2⟩ := hr a H1 q1
  obtain ⟨v, h3, q3⟩ := ho a b H2 q2
  exact ⟨v, H2, Ev.bin h1 h2 h3, q3⟩
theorem ExP.assignE {x : Str} {p : Pos} {value : Expr} (h : EvE G cs d m H value P) (rest : ∀ v H', P v H' → ∃ m', Put v x .local cs.names m m' ∧ ExP G cs d m' H' sts Post)
    (hs : ∀ env, env.scope = cs → swapsWith value (some (.Name x p)) pos.line env = pure false := by intro env he; rfl) : ExP G cs d m H (.Assign [.Name x p] value pos :: sts) Post := by
  obtain ⟨v, H', h1, h2⟩ := h
  obtain ⟨m', h3, h4⟩ := rest v H' h2
  exact ExP.cons (Es.assign h1 h3 hs) h4
theorem ExP.assignCE {x : Str} {p : Pos} {value : Expr} (h : EvE G cs d m H value P) (rest : ∀ v H', P v H' → ∃ m', Put v x .cell cs.names m m' ∧ ExP G cs d m' H' sts Post)
    (hs : ∀ env, env.scope = cs → env.kindOf x = some .cell → swapsWith value (some (.Name x p)) pos.line env = pure false := by intro env he hk; rfl) : ExP G cs d m H (.Assign [.Name x p] value pos :: sts) Post := by
  obtain ⟨v, H', h1, h2⟩ := h
  obtain ⟨m', h3, h4⟩ := rest v H' h2
  exact ExP.cons (Es.assignC h1 h3 hs) h4
theorem TrE.cmp {l r : Expr} {op : CmpOp} {P : Bool → Hp → Prop} {Q' : PV → PV → Hp → Prop} (hl : EvE G cs d m H l Q) (hr : ∀ a H', Q a H' → EvE G cs d m H' r (Q' a)) (ho : ∀ a b H', Q' a b H' → ∃ t, OpR G d (compareOp op) a b H' (.bool t) H' ∧ P t H') (hm : behindInMarks op r = false := by with_unfolding_all rfl) : TrE G cs d m H (.Compare l [op] [r] pos) P := by
  obtain ⟨a, H1, h1, q1⟩ := hl
  obtain ⟨b, H2, h2, q2⟩ := hr a H1 q1
  obtain ⟨v, h3, q3⟩ := ho a b H2 q2
  exact ⟨v, H2, Tr.cmpR h1 h2 h3 hm, q3⟩
/-- an if that is passed by, its test told of -/
theorem ExP.skipE {test : Expr} {body : List Stmt} {P : Bool → Hp → Prop} (h : TrE G cs d m H test P) (hb : ∀ b H', P b H' → b = false ∧ ExP G cs d m H' sts Post) : ExP G cs d m H (.If test body [] pos :: sts) Post := by
  obtain ⟨b, H', h1, h2⟩ := h
  obtain ⟨rfl, h3⟩ := hb b H' h2
  exact ExP.skip h1 h3

theorem EvE.comp1 {τ : Type} {scope : Scope} {target elt iter : Expr} {ok : Hp → Prop} {items : List ItP} (hs : ScopeOK scope cs) (hi : ItbS G cs d m H target iter items ok H₁) (ts : List τ) (Mf : Option τ → Mem) (hmf : ∀ o, MF cs.names m scope.names (Mf o)) (hin : Init scope.names (Mf none)) (Res : Nat → PV → Hp → Prop) (hlen : items.length = ts.length) (hz : ts.length ≤ 1000)
    (hasg : ∀ (k : Nat) P t o H, items[k]? = some P → ts[k]? = some t → Asg G (relabelS scope cs) d target P (Mf o) H (Mf (some t))) (hok : ∀ H', H₁ <+: H' → ok H')
    (hmono : ∀ (k : Nat) r H H', (∀ (i : Nat) v, i ≠ H₁.length → H[i]? = some v → H'[i]? = some v) → Res k r H → Res k r H')
    (helt : ∀ (k : Nat) t H', ts[k]? = some t → H₁ <+: H' → H₁.length < H'.length → EvE G (relabelS scope cs) d (Mf (some t)) H' elt (fun r H'' => H' <+: H'' ∧ Res k r H''))
    (hp : ∀ H' rs, H₁ <+: H' → H₁.length < H'.length → H'[H₁.length]? = some rs → rs.length = ts.length → (∀ (k : Nat) r, rs[k]? = some r → Res k r H') → P (.ref H₁.length) H') (hf : ∀ env x, foldedSetIterable iter env x = pure x := by intro _ _; rfl) :
    EvE G cs d m H (.ListComp elt [⟨target, iter, [], 0⟩] scope pos) P := by
  obtain ⟨o, H', rs, w, h1, h2, h3, h4, h5⟩ := co1 (G := G) (d := d) (H₁ := H₁) (csI := relabelS scope cs) (target := target) (elt := elt) (ok := ok) (items := items) ts Mf Res hlen hz hasg hok hmono (fun k t H' a b c => let ⟨r, H'', x, y⟩ := helt k t H' a b c; ⟨r, H'', x, y.1, y.2⟩)
  exact ⟨_, H', Ev.comp hs hi (hmf none) hin w (hmf o) hf, hp H' rs h1 h2 h3 h4 h5⟩
theorem swaps_list {elt : Expr} {gens : List Comprehension} {scope : Scope} {y : Str} {py : Pos} {line : Nat} {env : Env} (he : env.scope = cs) (hk : env.kindOf y = some .local)
    (h : ((if cs.kind.isAnnotationScope then ScopeKind.function else cs.kind) == .function && (some NameKind.local == some NameKind.local) && py.line == pos.line && !(scope.names.any fun (n, k) => n == y && (k == .local || k == .cell))) = true) :
    swapsWith (.ListComp elt gens scope pos) (some (.Name y py)) line env = pure true := by
  subst he
  show (pure (env.blockKind == .function && env.kindOf y == some .local && py.line == pos.line && !(scope.names.any fun (n, k) => n == y && (k == .local || k == .cell))) : Sem Bool) = pure true
  rw [hk]
  exact congrArg pure h
theorem swaps_cell {elt : Expr} {gens : List Comprehension} {scope : Scope} {y : Str} {py : Pos} {line : Nat} {env : Env} (hk : env.kindOf y = some .cell) : swapsWith (.ListComp elt gens scope pos) (some (.Name y py)) line env = pure false := by
  show (pure (env.blockKind == .function && env.kindOf y == some .local && py.line == pos.line && !(scope.names.any fun (n, k) => n == y && (k == .local || k == .cell))) : Sem Bool) = pure false
  rw [hk, show ((some NameKind.cell == some NameKind.local) = false) from rfl, Bool.and_false, Bool.false_and, Bool.false_and]
theorem ExP.comp1 {τ : Type} {y : Str} {py spos : Pos} {scope : Scope} {target elt iter : Expr} {ok : Hp → Prop} {items : List ItP} (hs : ScopeOK scope cs) (hi : ItbS G cs d m H target iter items ok H₁) (ts : List τ) (Mf : Option τ → Mem) (hmf : ∀ o, MF cs.names m scope.names (Mf o)) (hin : Init scope.names (Mf none)) (Res : Nat → PV → Hp → Prop) (hlen : items.length = ts.length) (hz : ts.length ≤ 1000)
    (hasg : ∀ (k : Nat) P t o H, items[k]? = some P → ts[k]? = some t → Asg G (relabelS scope cs) d target P (Mf o) H (Mf (some t))) (hok : ∀ H', H₁ <+: H' → ok H')
    (hmono : ∀ (k : Nat) r H H', (∀ (i : Nat) v, i ≠ H₁.length → H[i]? = some v → H'[i]? = some v) → Res k r H → Res k r H')
    (helt : ∀ (k : Nat) t H', ts[k]? = some t → H₁ <+: H' → H₁.length < H'.length → EvE G (relabelS scope cs) d (Mf (some t)) H' elt (fun r H'' => H' <+: H'' ∧ Res k r H''))
    (hsw : ∀ env, env.scope = cs → env.kindOf y = some .local → swapsWith (.ListComp elt [⟨target, iter, [], 0⟩] scope pos) (some (.Name y py)) spos.line env = pure true)
    (hput : Put (.ref H₁.length) y .local cs.names m m')
    (rest : ∀ H' rs, H₁ <+: H' → H₁.length < H'.length → H'[H₁.length]? = some rs → rs.length = ts.length → (∀ (k : Nat) r, rs[k]? = some r → Res k r H') → ExP G cs d m' H' sts Post) (hf : ∀ env x, foldedSetIterable iter env x = pure x := by intro _ _; rfl) :
    ExP G cs d m H (.Assign [.Name y py] (.ListComp elt [⟨target, iter, [], 0⟩] scope pos) spos :: sts) Post := by
  obtain ⟨o, H', rs, w, h1, h2, h3, h4, h5⟩ := co1 (G := G) (d := d) (H₁ := H₁) (csI := relabelS scope cs) (target := target) (elt := elt) (ok := ok) (items := items) ts Mf Res hlen hz hasg hok hmono (fun k t H' a b c => let ⟨r, H'', x, y⟩ := helt k t H' a b c; ⟨r, H'', x, y.1, y.2⟩)
  exact ExP.cons (Es.assignComp hs hi (hmf none) hin w (hmf o) hput hf hsw) (rest H' rs h1 h2 h3 h4 h5)
theorem EvE.compF {scope : Scope} {target elt c iter : Expr} {ok : Hp → Prop} (hs : ScopeOK scope cs) (ts : List Int) (hi : ItbS G cs d m H target iter (ts.map fun t => ItP.of (.int t)) ok H₁) (b : Int → Bool) (Mf : Option Int → Mem) (hmf : ∀ o, MF cs.names m scope.names (Mf o)) (hin : Init scope.names (Mf none)) (hz : ts.length ≤ 1000)
    (hasg : ∀ t o H, Asg G (relabelS scope cs) d target (.of (.int t)) (Mf o) H (Mf (some t))) (hok : ∀ H', H₁ <+: H' → ok H')
    (htest : ∀ t H', t ∈ ts → H₁ <+: H' → Tr G (relabelS scope cs) d (Mf (some t)) H' c (b t) H') (helt : ∀ t H', Ev G (relabelS scope cs) d (Mf (some t)) H' elt (.int t) H')
    (hp : ∀ H', H₁ <+: H' → H'[H₁.length]? = some ((ts.filter b).map PV.int) → P (.ref H₁.length) H') (hf : ∀ env x, foldedSetIterable iter env x = pure x := by intro _ _; rfl) :
    EvE G cs d m H (.ListComp elt [⟨target, iter, [c], 0⟩] scope pos) P := by
  obtain ⟨o, H', w, h1, h2⟩ := co_filter (G := G) (d := d) (H₁ := H₁) (csI := relabelS scope cs) (target := target) (elt := elt) (c := c) (ok := ok) ts b Mf hz hasg hok htest helt
  exact ⟨_, H', Ev.comp hs hi (hmf none) hin w (hmf o) hf, hp H' h1 h2⟩

noncomputable def base8 : List Int := [2, 1, 2, 1, 3, 0, 3, 0]
noncomputable def cellL (ns : List Int) : List Int := [0, 1, 2, 3, 4, 5, 6, 7].map fun (k : Nat) => base8.getD k 0 + (pickL ns (some (k : Int)) none (some 8)).sum
theorem rs_ints {rs : List PV} {L : List Int} (hl : rs.length = L.length) (h : ∀ (k : Nat) r, rs[k]? = some r → ∃ i, L[k]? = some i ∧ r = .int i) : rs = L.map PV.int := by
  apply List.ext_getElem?
  intro k
  rw [List.getElem?_map]
  cases e : rs[k]? with
  | none =>
    rw [List.getElem?_eq_none_iff] at e
    rw [List.getElem?_eq_none (by (first | lia | omega))]; rfl
  | some r =>
    obtain ⟨i, h1, rfl⟩ := h k r e
    rw [h1]; rfl

theorem EvE.compI {x : Str} {px : Pos} {scope : Scope} {elt iter : Expr} {ok : Hp → Prop} (hs : ScopeOK scope cs) (ts : List Int) (hi : ItbS G cs d m H (.Name x px) iter (ts.map fun t => ItP.of (.int t)) ok H₁) (f : Int → Int) (Mf : Option Int → Mem) (hmf : ∀ o, MF cs.names m scope.names (Mf o)) (hin : Init scope.names (Mf none)) (hz : ts.length ≤ 1000)
    (hasg : ∀ t o H, Asg G (relabelS scope cs) d (.Name x px) (.of (.int t)) (Mf o) H (Mf (some t))) (hok : ∀ H', H₁ <+: H' → ok H')
    (helt : ∀ t H', t ∈ ts → H₁ <+: H' → EvE G (relabelS scope cs) d (Mf (some t)) H' elt (fun r H'' => H' <+: H'' ∧ r = .int (f t)))
    (hp : ∀ H', H₁ <+: H' → H₁.length < H'.length → H'[H₁.length]? = some ((ts.map f).map PV.int) → P (.ref H₁.length) H') (hf : ∀ env x, foldedSetIterable iter env x = pure x := by intro _ _; rfl) :
    EvE G cs d m H (.ListComp elt [⟨.Name x px, iter, [], 0⟩] scope pos) P := by
  refine EvE.comp1 hs hi ts Mf hmf hin (fun k r _ => ∃ t, ts[k]? = some t ∧ r = .int (f t)) (by simp) hz (fun k P t o H h1 h2 => ?_) hok (fun _ _ _ _ _ h => h) (fun k t H' ht hp' hlt => ?_) (fun H' rs h1 h2 h3 h4 h5 => ?_) hf
  · rw [List.getElem?_map, h2] at h1
    cases h1
    exact hasg t o H
  · obtain ⟨r, H'', e1, e2, e3⟩ := helt t H' (List.mem_of_getElem? ht) hp'
    exact ⟨r, H'', e1, e2, t, ht, e3⟩
  · have : rs = (ts.map f).map PV.int := rs_ints (by simp [h4]) fun k r hr => by
      obtain ⟨t, ht, e⟩ := h5 k r hr
      exact ⟨f t, by rw [List.getElem?_map, ht]; rfl, e⟩
    rw [this] at h3
    exact hp H' h1 h2 h3

theorem LLs.of_get : ∀ {xs : List PV} {nss : List (List Int)}, xs.length = nss.length → (∀ (k : Nat) r, xs[k]? = some r → ∃ i l, nss[k]? = some l ∧ r = .ref i ∧ H[i]? = some (l.map PV.int)) → LLs H xs nss
  | [], [], _, _ => trivial
  | x :: xs, l :: nss, hl, h => by
    obtain ⟨i, l', h1, h2, h3⟩ := h 0 x rfl
    cases h1
    refine ⟨⟨i, h2, h3⟩, LLs.of_get (by simpa using hl) fun k r hr => h (k + 1) r hr⟩
  | [], _ :: _, hl, _ => by simp at hl
  | _ :: _, [], hl, _ => by simp at hl

/-- a comprehension of lists -/
theorem EvE.compL {x : Str} {px : Pos} {scope : Scope} {elt iter : Expr} {ok : Hp → Prop} (hs : ScopeOK scope cs) (ts : List PV) (hi : ItbS G cs d m H (.Name x px) iter (ts.map ItP.of) ok H₁) (L : List (List Int)) (hL : L.length = ts.length) (Mf : Option PV → Mem) (hmf : ∀ o, MF cs.names m scope.names (Mf o)) (hin : Init scope.names (Mf none)) (hz : ts.length ≤ 1000)
    (hasg : ∀ t o H, Asg G (relabelS scope cs) d (.Name x px) (.of t) (Mf o) H (Mf (some t))) (hok : ∀ H', H₁ <+: H' → ok H')
    (helt : ∀ (k : Nat) t l H', ts[k]? = some t → L[k]? = some l → H₁ <+: H' → H₁.length < H'.length → EvE G (relabelS scope cs) d (Mf (some t)) H' elt (fun r H'' => H' <+: H'' ∧ ∃ i, r = .ref i ∧ i ≠ H₁.length ∧ H''[i]? = some (l.map PV.int)))
    (hp : ∀ H' rs, H₁ <+: H' → H₁.length < H'.length → H'[H₁.length]? = some rs → LLs H' rs L → P (.ref H₁.length) H') (hf : ∀ env x, foldedSetIterable iter env x = pure x := by intro _ _; rfl) :
    EvE G cs d m H (.ListComp elt [⟨.Name x px, iter, [], 0⟩] scope pos) P := by
  refine EvE.comp1 hs hi ts Mf hmf hin (fun k r H => ∃ i l, L[k]? = some l ∧ r = .ref i ∧ i ≠ H₁.length ∧ H[i]? = some (l.map PV.int)) (by simp) hz (fun k P t o H h1 h2 => ?_) hok (fun k r H H' hk h => ?_) (fun k t H' ht hp' hlt => ?_) (fun H' rs h1 h2 h3 h4 h5 => ?_) hf
  · rw [List.getElem?_map, h2] at h1
    cases h1
    exact hasg t o H
  · obtain ⟨i, l, h1, h2, h3, h4⟩ := h
    exact ⟨i, l, h1, h2, h3, hk i _ h3 h4⟩
  · have hk : k < L.length := by have := (List.getElem?_eq_some_iff.mp ht).1; (first | lia | omega)
    obtain ⟨r, H'', e1, e2, i, e3, e4, e5⟩ := helt k t _ H' ht (List.getElem?_eq_getElem hk) hp' hlt
    exact ⟨r, H'', e1, e2, i, _, List.getElem?_eq_getElem hk, e3, e4, e5⟩
  · refine hp H' rs h1 h2 h3 (LLs.of_get (by (first | lia | omega)) fun k r hr => ?_)
    obtain ⟨i, l, h1, h2, _, h4⟩ := h5 k r hr
    exact ⟨i, l, h1, h2, h4⟩
end

section
variable {G : Gd} {cs : Scope} {d : Nat} {m m₁ m₂ m' : Mem} {H H₁ H₂ H₃ H' : Hp} {pos : Pos}

theorem base8_get {k : Nat} {t : Int × Int} {P : ItP} (h1 : ((base8.map PV.int).mapIdx fun i p => ItP.pair (.int i) p)[k]? = some P) (h2 : (base8.mapIdx fun i x => ((i : Int), x))[k]? = some t) : P = ItP.pair (.int t.1) (.int t.2) ∧ t.1 = k ∧ (cellL ns)[k]? = some (t.2 + (pickL ns (some t.1) none (some 8)).sum) := by
  have hk : k < 8 := by have := (List.getElem?_eq_some_iff.mp h2).1; simpa [base8] using this
  rw [List.getElem?_mapIdx] at h1 h2
  rw [List.getElem?_map] at h1
  match k, hk with
  | 0, _ => cases h1; cases h2; exact ⟨rfl, rfl, rfl⟩
  | 1, _ => cases h1; cases h2; exact ⟨rfl, rfl, rfl⟩
  | 2, _ => cases h1; cases h2; exact ⟨rfl, rfl, rfl⟩
  | 3, _ => cases h1; cases h2; exact ⟨rfl, rfl, rfl⟩
  | 4, _ => cases h1; cases h2; exact ⟨rfl, rfl, rfl⟩
  | 5, _ => cases h1; cases h2; exact ⟨rfl, rfl, rfl⟩
  | 6, _ => cases h1; cases h2; exact ⟨rfl, rfl, rfl⟩
  | 7, _ => cases h1; cases h2; exact ⟨rfl, rfl, rfl⟩
  | n + 8, h => exact absurd h (by (first | lia | omega))

theorem base8_cell {ns : List Int} {k : Nat} {t : Int × Int} (h2 : (base8.mapIdx fun i x => ((i : Int), x))[k]? = some t) : (cellL ns)[k]? = some (t.2 + (pickL ns (some t.1) none (some 8)).sum) := by
  have hk : k < 8 := by have := (List.getElem?_eq_some_iff.mp h2).1; simpa [base8] using this
  have hk' : k < ((base8.map PV.int).mapIdx fun i p => ItP.pair (.int i) p).length := by simpa [base8] using hk
  exact (base8_get (ns := ns) (List.getElem?_eq_getElem hk') h2).2.2
theorem ItbS.listI {target iter : Expr} {n : Nat} {ts : List Int} (h : Ev G cs d m H iter (.ref n) H₁) (hx : H₁[n]? = some (ts.map PV.int)) : ItbS G cs d m H target iter (ts.map fun t => ItP.of (.int t)) (fun H => H[n]? = some (ts.map PV.int)) H₁ := by
  have := ItbS.list (target := target) h hx
  rwa [List.map_map] at this

theorem pickL_le {α : Type} (xs : List α) (a b c : Option Int) : (pickL xs a b c).length ≤ xs.length := by
  have h1 := slicePick_size_le ((xs.map fun _ => Value.none).toArray) a b c
  have h2 : pickL (xs.map fun _ => Value.none) a b c = (slicePick ((xs.map fun _ => Value.none).toArray) a b c).toList := by
    unfold pickL slicePick
    simp
  have h3 := congrArg List.length (pickL_map (fun _ : α => Value.none) xs a b c)
  rw [h2, Array.length_toList, List.length_map] at h3
  simp only [List.size_toArray, List.length_map] at h1
  (first | lia | omega)

noncomputable def mod4 (L : List Int) : List Int := L.map fun x => x.fmod 4

noncomputable def liftM (C : List Int) (gap : Int) (k : Nat) : Int := (C.getD k 0).fmod 4 + max 0 ((3 - (k : Int) - gap).fdiv 4)
noncomputable def liftY (C : List Int) (gap : Int) (k : Nat) : Int := (C.getD (4 + k) 0).fmod 4 + max 0 ((3 - (k : Int) + gap).fdiv 4)
noncomputable def rowM (C : List Int) (gap : Int) (n : Nat) : List Int := (List.range n).foldl (fun M k => insAt M (bisL M (liftM C gap k)) (liftM C gap k)) []
noncomputable def rowY (C : List Int) (gap : Int) (n : Nat) : List Int := (List.range n).foldl (fun M k => insAt M (bisR M (liftY C gap k)) (liftY C gap k)) []
theorem rowM_succ (C : List Int) (gap : Int) (n : Nat) : rowM C gap (n + 1) = insAt (rowM C gap n) (bisL (rowM C gap n) (liftM C gap n)) (liftM C gap n) := by
  unfold rowM; rw [List.range_succ, List.foldl_append]; rfl
theorem rowY_succ (C : List Int) (gap : Int) (n : Nat) : rowY C gap (n + 1) = insAt (rowY C gap n) (bisR (rowY C gap n) (liftY C gap n)) (liftY C gap n) := by
  unfold rowY; rw [List.range_succ, List.foldl_append]; rfl
theorem insAt_len (M : List Int) (i : Nat) (x : Int) : (insAt M i x).length = M.length + 1 := by
  unfold insAt
  rw [List.length_append, List.length_cons, List.length_take, List.length_drop]; (first | lia | omega)
theorem rowM_len (C : List Int) (gap : Int) : ∀ n, (rowM C gap n).length = n
  | 0 => rfl
  | n + 1 => by rw [rowM_succ, insAt_len, rowM_len C gap n]
theorem rowY_len (C : List Int) (gap : Int) : ∀ n, (rowY C gap n).length = n
  | 0 => rfl
  | n + 1 => by rw [rowY_succ, insAt_len, rowY_len C gap n]
theorem get2_0 {α : Type} (l : List α) (a b : α) : (l ++ [a, b])[l.length]? = some a := by simp
theorem get2_1 {α : Type} (l : List α) (a b : α) : (l ++ [a, b])[l.length + 1]? = some b := by simp
theorem set2_0 {α : Type} (l : List α) (a b c : α) : (l ++ [a, b]).set l.length c = l ++ [c, b] := by simp
theorem set2_1 {α : Type} (l : List α) (a b c : α) : (l ++ [a, b]).set (l.length + 1) c = l ++ [a, c] := by simp

noncomputable def gapF (C : List Int) : Int := (mod4 (pickL C none (some 4) none)).sum - (mod4 (pickL C (some 4) none none)).sum
noncomputable def dueF (row : List Int) (t : Int) : Int := (row.map fun x => max 0 (x - t)).sum
noncomputable def revF (M : List Int) : List Int := pickL M none none (some (-1))
/-- the turns of the range where one row is due more -/
noncomputable def moreF (M Y : List Int) : List Int := (rng 0 1 (maxL (M ++ Y)).toNat).filter fun t => decide (dueF M t > dueF Y t)
noncomputable def moreG (M Y : List Int) : List Int := (rng 0 1 (maxL (M ++ Y)).toNat).filter fun t => decide (dueF Y t > dueF M t)
noncomputable def sgM (M Y : List Int) : List (Int × Bool) := signs (revF M) (revF Y)
noncomputable def sgY (M Y : List Int) : List (Int × Bool) := signs (revF Y) (revF M)
noncomputable def colF (M Y : List Int) : List Int := (rng 0 1 (maxL (M ++ Y)).toNat).map fun t => 4 - (bisR M t : Int)
noncomputable def othF (M Y : List Int) : List Int := (rng 0 1 (maxL (M ++ Y)).toNat).map fun t => 4 - (bisL Y (t + 1) : Int)
noncomputable def balS (ps : List (Int × Bool)) : Bool := bal (ps.map (·.2))
/-- one gift: the row now, the row held in order -/
noncomputable def gStep (st : List Int × List Int) (p : Int × Int) : List Int × List Int :=
  let rich := st.1.getD p.1.toNat 0
  let poor := st.1.getD p.2.toNat 0
  let h1 := st.2.eraseIdx (bisL st.2 rich)
  let h2 := h1.eraseIdx (bisL h1 poor)
  let h3 := insAt h2 (bisR h2 (rich - 1)) (rich - 1)
  let h4 := insAt h3 (bisL h3 (poor + 1)) (poor + 1)
  ((st.1.set p.1.toNat (rich - 1)).set p.2.toNat (poor + 1), h4)
noncomputable def near (L R : List Int) : Bool := [0, 1, 2, 3].all fun (k : Nat) => decide ((L.getD k 0 - R.getD k 0).natAbs ≤ 100)
noncomputable def gOK (low high : List Int) (st : List Int × List Int) (p : Int × Int) : Bool :=
  let rich := st.1.getD p.1.toNat 0
  let poor := st.1.getD p.2.toNat 0
  let h1 := st.2.eraseIdx (bisL st.2 rich)
  decide (0 ≤ p.1) && decide (p.1 < 4) && decide (0 ≤ p.2) && decide (p.2 < 4) && decide (bisL st.2 rich < st.2.length) && decide (bisL h1 poor < h1.length) &&
    decide ((gStep st p).2 = revF (gStep st p).1) && balS (signs (gStep st p).1 high) && balS (signs low (gStep st p).1) && decide ((signs (gStep st p).1 high).length ≤ 100) && decide ((signs low (gStep st p).1).length ≤ 100) && near (gStep st p).1 high && near low (gStep st p).1
noncomputable def giftsOK (low high : List Int) : List (Int × Int) → List Int × List Int → Bool
  | [], st => decide (st.1 = low)
  | p :: r, st => gOK low high st p && giftsOK low high r (gStep st p)
/-- what the plain law has to say of the two rows -/
structure LawOK (M Y : List Int) : Prop where
  nn : 0 ≤ maxL (M ++ Y)
  small : maxL (M ++ Y) ≤ 50
  abM : ∀ t ∈ rng 0 1 (maxL (M ++ Y)).toNat, aboveF M t = dueF M t
  abY : ∀ t ∈ rng 0 1 (maxL (M ++ Y)).toNat, aboveF Y t = dueF Y t
  rM : (revF M).length = 4
  rY : (revF Y).length = 4
  rrM : (revF (revF M)).length = 4
  rrY : (revF (revF Y)).length = 4
  s1 : (sgM M Y).length ≤ 30
  s2 : (sgY M Y).length ≤ 30
  dv : ∀ k : Nat, ((revF M).getD k 0 - (revF Y).getD k 0).natAbs ≤ 100
  un : balS (sgM M Y) = decide (moreF M Y = [])
  ov : balS (sgY M Y) = decide (moreG M Y = [])
  told1 : balS (signs (othF M Y) (colF M Y)) = balS (sgM M Y)
  told2 : balS (signs (colF M Y) (othF M Y)) = balS (sgY M Y)
  lo1 : (signs (othF M Y) (colF M Y)).length ≤ 100
  lo2 : (signs (colF M Y) (othF M Y)).length ≤ 100
  dvc : ∀ k : Nat, ((othF M Y).getD k 0 - (colF M Y).getD k 0).natAbs ≤ 100
  gi1 : balS (sgM M Y) = true → giftsOK (revF M) (revF Y) (giftsUp (sgM M Y) (sgM M Y).length) (revF Y, revF (revF Y)) = true
  gi2 : balS (sgM M Y) = false → balS (sgY M Y) = true → giftsOK (revF Y) (revF M) (giftsUp (sgY M Y) (sgY M Y).length) (revF M, revF (revF M)) = true
  eq3 : balS (sgM M Y ++ sgY M Y ++ sgM M Y) = decide (M = Y)
theorem rng_get {n : Nat} {f : Int → Int} {t : Int} (h : t ∈ rng 0 1 n) : (((rng 0 1 n).map f).map PV.int)[t.toNat]? = some (.int (f t)) := by
  unfold rng at h ⊢
  obtain ⟨i, hi, rfl⟩ := List.mem_map.mp h
  have hi' := List.mem_range.mp hi
  have e : ((0 : Int) + (i : Int) * 1).toNat = i := by (first | lia | omega)
  rw [e, List.getElem?_map, List.getElem?_map, List.getElem?_map, List.getElem?_range hi']; rfl
theorem rng_mem {n : Nat} {t : Int} (h : t ∈ rng 0 1 n) : 0 ≤ t ∧ t < n := by
  unfold rng at h
  obtain ⟨i, hi, rfl⟩ := List.mem_map.mp h
  have := List.mem_range.mp hi
  (first | lia | omega)

end

section
variable {G : Gd} {cs : Scope} {d : Nat} {m m₁ m₂ m' : Mem} {H H₁ H₂ H₃ H' : Hp} {pos : Pos}

theorem near_all {L R : List Int} (hl : L.length = 4) (hr : R.length = 4) (h : near L R = true) : ∀ k : Nat, (L.getD k 0 - R.getD k 0).natAbs ≤ 100 := by
  intro k
  have h' := List.all_eq_true.mp h
  by_cases hk : k < 4
  · have : k ∈ [0, 1, 2, 3] := by
      match k, hk with
      | 0, _ => simp
      | 1, _ => simp
      | 2, _ => simp
      | 3, _ => simp
    simpa using h' k this
  · rw [List.getD_eq_getElem?_getD, List.getD_eq_getElem?_getD, List.getElem?_eq_none (by (first | lia | omega)), List.getElem?_eq_none (by (first | lia | omega))]
    simp
theorem erase_map (L : List Int) (i : Nat) : (L.map PV.int).eraseIdx i = (L.eraseIdx i).map PV.int := by
  induction L generalizing i with
  | nil => rfl
  | cons a r ih => cases i with
    | zero => rfl
    | succ i => simp [List.eraseIdx, ih]
theorem pickL_all {α : Type} (xs : List α) : pickL xs none none none = xs := by
  have e : sliceBounds none none none xs.length = (((0 : Nat) : Int), (xs.length : Int), 1) := by
    simp only [sliceBounds, Option.getD_none, show (1 : Int) > 0 by decide, if_true]
    rfl
  unfold pickL
  rw [e, sliceRange_one]
  have := pick_run xs.toArray 0 xs.length
  simpa using this

set_option maxRecDepth 100000 in
set_option maxHeartbeats 8000000 in
theorem law_end (g : GOK G) {l : Addr} {fd : FuncData} {oc : Value} {od : Option Addr} {sl : Array (Option Value)} (hlaw : (KH G.w.params).lookup 160 = some ⟨oc, od, .func fd, sl⟩) {body : List Stmt} (hb : fd.body = .stmts body) {low high : List Int} {ps : List (Int × Bool)} {o : Option PV} {T gap : Int} {x0 sz nD nT nB nC nO nL nH : Nat} {u w : Bool} {xs : List PV} {H5 : Hp} (hll : low.length = 4) (hlh : high.length = 4) (hL : H5[nL]? = some (low.map PV.int)) (hH : H5[nH]? = some (high.map PV.int))
    (hrl : (revF high).length = 4) (hP1 : H5[if u then nT else nB]? = some xs) (hP2 : Pcs H5 xs ps) (hpl : ps.length ≤ 30) (hgo : giftsOK low high (giftsUp ps ps.length) (high, revF high) = true) :
    ExP G fd.scope (d + 8) [some (.glob (.ref l)), o, some (.ref 1), some (.int T), some (.int gap), some (.ref x0), some (.ref (x0 + 1)), some (.int sz), some (.ref nD), some (.ref nT), some (.ref nB), some (.bool u), some (.bool w), some (.ref nC), some (.ref nO), some (.ref nL), some (.ref nH), none, none, none, none, none, none, none, none, none, none, none, none, none, none, none, none, none, none, none, none, none, none] H5 (body.drop 22) (fun f m' H' => f = .ret (.bool true)) := by
  have hlaw' := hlaw
  cases hlaw
  cases hb
  have hsl : sizeLine = 16777216 := by decide +kernel
  have ggi : G.mg (Str.ofString "_law_gifts") = some (.ref 148) := mg_of g.X G.g rfl
  have o148 := g.X 148 _ rfl
  have gge : G.mg (Str.ofString "getitem") = some (.ref 113) := mg_of g.X G.g rfl
  have o113 := g.X 113 _ rfl
  have gde : G.mg (Str.ofString "delitem") = some (.ref 106) := mg_of g.X G.g rfl
  have o106 := g.X 106 _ rfl
  have gbl : G.mg (Str.ofString "bisect_left") = some (.ref 71) := mg_of g.X G.g rfl
  have o71 := g.X 71 _ rfl
  have gir : G.mg (Str.ofString "insort_right") = some (.ref 44) := mg_of g.X G.g rfl
  have o44 := g.X 44 _ rfl
  have gil : G.mg (Str.ofString "insort_left") = some (.ref 62) := mg_of g.X G.g rfl
  have o62 := g.X 62 _ rfl
  have gsu : G.mg (Str.ofString "sub") = some (.ref 92) := mg_of g.X G.g rfl
  have o92 := g.X 92 _ rfl
  have gad : G.mg (Str.ofString "add") = some (.ref 78) := mg_of g.X G.g rfl
  have o78 := g.X 78 _ rfl
  have gse : G.mg (Str.ofString "setitem") = some (.ref 120) := mg_of g.X G.g rfl
  have o120 := g.X 120 _ rfl
  have gto : G.mg (Str.ofString "_law_told") = some (.ref 141) := mg_of g.X G.g rfl
  have o141 := g.X 141 _ rfl
  have hHz : (high.map PV.int).length ≤ sizeLine := by rw [List.length_map, hlh, hsl]; decide
  have kA : pickL (high.map PV.int) none none none = high.map PV.int := pickL_all _
  have kR : pickL (high.map PV.int) none none (some (-1)) = (revF high).map PV.int := pickL_map _ _ _ _ _
  refine ExP.cons (Es.assign (kA ▸ Ev.slice (Ev.local (v := .ref nH) (by walk_at "ux at")) hH EvP.none EvP.none hHz) (by walk_at "ux put")) ?_
  refine ExP.cons (Es.assign (v := .ref (H5.length + 1)) (Ev.of (kR ▸ Ev.sliceK (Ev.local (v := .ref nH) (by walk_at "ux at")) (prefix_get (List.prefix_append _ _) hH) EvP.none EvP.none (Ev.neg Ev.const_int) (by decide) hHz) (by simp)) (by walk_at "ux put")) ?_
  have hpre : H5 <+: H5 ++ [high.map PV.int] ++ [(revF high).map PV.int] := (List.prefix_append _ _).trans (List.prefix_append _ _)
  obtain ⟨v, H6, c6, hp6, nG, ys, rfl, hG1, hG2⟩ := gifts_ok (d := d + 2) g (prefix_get hpre hP1) (hP2.pre hpre) (by (first | lia | omega))
  have hpE := hpre.trans hp6
  have iter : ∀ {m' : Mem} {p1 p2 p3 p4 p5 p6 : Pos} {cs' : Scope}, At (.bool u) "under" .local cs'.names m' → At (.ref nT) "there" .local cs'.names m' → At (.ref nB) "back" .local cs'.names m' → (Str.ofString "_law_gifts", NameKind.globalImplicit) ∈ cs'.names → Ev G cs' (d + 8) m' (H5 ++ [high.map PV.int] ++ [(revF high).map PV.int]) (.Call (.Name "_law_gifts" p1) [.IfExp (.Name "under" p2) (.Name "there" p3) (.Name "back" p4) p5] [] p6) (.ref nG) H6 := fun a1 a2 a3 a4 =>
    Ev.callF (Ev.global ggi a4) o148 rfl (Evs.cons (Ev.ifexp (b := u) (Tr.name (Ev.local a1)) (by cases u <;> first | exact Ev.local (v := .ref nB) a3 | exact Ev.local (v := .ref nT) a2)) Evs.nil) c6
  refine ExP.for (Itb.list (iter (by walk_at "ux at") (by walk_at "ux at") (by walk_at "ux at") (by walk_at "ux mem")) hG1)
    (fun k m H' => ∃ now held o1 o2 o3 o4, m = [some (.glob (.ref l)), o, some (.ref 1), some (.int T), some (.int gap), some (.ref x0), some (.ref (x0 + 1)), some (.int sz), some (.ref nD), some (.ref nT), some (.ref nB), some (.bool u), some (.bool w), some (.ref nC), some (.ref nO), some (.ref nL), some (.ref nH), some (.ref H5.length), some (.ref (H5.length + 1)), o1, o2, o3, o4, none, none, none, none, none, none, none, none, none, none, none, none, none, none, none, none] ∧ now.length = 4 ∧ held.length = 4 ∧ H5 <+: H' ∧ H'[H5.length]? = some (now.map PV.int) ∧ H'[H5.length + 1]? = some (held.map PV.int) ∧ H'[nG]? = some ys ∧ Gs H' ys (giftsUp ps ps.length) ∧ giftsOK low high ((giftsUp ps ps.length).drop k) (now, held) = true)
    ⟨high, revF high, none, none, none, none, rfl, hlh, hrl, hpE, prefix_get hp6 (prefix_get (List.prefix_append _ _) (get_last _ _)), prefix_get hp6 (by have := get_last (H5 ++ [high.map PV.int]) ((revF high).map PV.int); simpa using this), hG1, hG2, by simpa using hgo⟩ (fun k m H h => by obtain ⟨_, _, _, _, _, _, _, _, _, _, _, _, h, _⟩ := h; exact h) (fun k P m H' hget hIv => ?_) (fun m' H' hIv => ?_)
  · obtain ⟨now, held, o1, o2, o3, o4, rfl, q1, q2, q3, q4, q5, q6, q7, q8⟩ := hIv
    rw [List.getElem?_map] at hget
    obtain ⟨y, hy, rfl⟩ := Option.map_eq_some_iff.mp hget
    obtain ⟨i, p, rfl, hp, hpi⟩ := q7.get hy
    have hdr : (giftsUp ps ps.length).drop k = p :: (giftsUp ps ps.length).drop (k + 1) := by
      obtain ⟨hlt, e⟩ := List.getElem?_eq_some_iff.mp hp
      rw [List.drop_eq_getElem_cons hlt, e]
    rw [hdr] at q8
    simp only [giftsOK, gOK, Bool.and_eq_true, decide_eq_true_eq] at q8
    obtain ⟨⟨⟨⟨⟨⟨⟨⟨⟨⟨⟨⟨⟨a1, a2⟩, a3⟩, a4⟩, b1⟩, b2⟩, b3⟩, b4⟩, b5⟩, b6⟩, b7⟩, b8⟩, b9⟩, q9⟩ := q8
    generalize hrich : now.getD p.1.toNat 0 = rich at b1 b2
    generalize hpoor : now.getD p.2.toNat 0 = poor at b2
    refine ⟨_, Asg.pairL hpi (by walk_at "ux put") (by walk_at "ux put"), ?_⟩
    have gr : (now.map PV.int)[p.1.toNat]? = some (.int rich) := by
      have hlt : p.1.toNat < now.length := by (first | lia | omega)
      rw [← hrich, List.getElem?_map, List.getElem?_eq_getElem hlt, List.getD_eq_getElem?_getD, List.getElem?_eq_getElem hlt]; rfl
    have gp : (now.map PV.int)[p.2.toNat]? = some (.int poor) := by
      have hlt : p.2.toNat < now.length := by (first | lia | omega)
      rw [← hpoor, List.getElem?_map, List.getElem?_eq_getElem hlt, List.getD_eq_getElem?_getD, List.getElem?_eq_getElem hlt]; rfl
    refine ExP.cons (Es.assign (v := .int rich) (Ev.callF (Ev.global gge (by walk_at "ux mem")) o113 rfl (Evs.cons (Ev.local (v := .ref H5.length) (by walk_at "ux at")) (Evs.cons (Ev.local (v := .int p.1) (by walk_at "ux at")) Evs.nil)) (getitem_ok (d := d + 7) g q4 a1 (by (first | lia | omega)) gr)) (by walk_at "ux put")) ?_
    refine ExP.cons (Es.assign (v := .int poor) (Ev.callF (Ev.global gge (by walk_at "ux mem")) o113 rfl (Evs.cons (Ev.local (v := .ref H5.length) (by walk_at "ux at")) (Evs.cons (Ev.local (v := .int p.2) (by walk_at "ux at")) Evs.nil)) (getitem_ok (d := d + 7) g q4 a3 (by (first | lia | omega)) gp)) (by walk_at "ux put")) ?_
    have hlt0 : H5.length + 1 < H'.length := (List.getElem?_eq_some_iff.mp q5).1
    -- two taken out
    have d1 := delitem_ok (d := d + 7) (i := (bisL held rich : Int)) g q5 (by (first | lia | omega)) (by rw [List.length_map]; (first | lia | omega)) (by rw [List.length_map]; (first | lia | omega))
    rw [erase_map, Int.toNat_natCast] at d1
    generalize hh1 : held.eraseIdx (bisL held rich) = h1 at d1 b2
    have l1 : h1.length = 3 := by rw [← hh1, List.length_eraseIdx_of_lt b1]; (first | lia | omega)
    have e1 : (H'.set (H5.length + 1) (h1.map PV.int))[H5.length + 1]? = some (h1.map PV.int) := List.getElem?_set_self hlt0
    have d2 := delitem_ok (d := d + 7) (i := (bisL h1 poor : Int)) g e1 (by (first | lia | omega)) (by rw [List.length_map]; (first | lia | omega)) (by rw [List.length_map]; (first | lia | omega))
    rw [erase_map, Int.toNat_natCast, List.set_set] at d2
    generalize hh2 : h1.eraseIdx (bisL h1 poor) = h2 at d2
    have l2 : h2.length = 2 := by rw [← hh2, List.length_eraseIdx_of_lt b2]; (first | lia | omega)
    have e2 : (H'.set (H5.length + 1) (h2.map PV.int))[H5.length + 1]? = some (h2.map PV.int) := List.getElem?_set_self hlt0
    refine ExP.skip (Tr.or_false ((Tr.cmp (Ev.callF (Ev.global gde (by walk_at "ux mem")) o106 rfl (Evs.cons (Ev.local (v := .ref (H5.length + 1)) (by walk_at "ux at")) (Evs.cons (Ev.callF (Ev.global gbl (by walk_at "ux mem")) o71 rfl (Evs.cons (Ev.local (v := .ref (H5.length + 1)) (by walk_at "ux at")) (Evs.cons (Ev.local (v := .int rich) (by walk_at "ux at")) Evs.nil)) (bisL_ok (d := d + 7) g q5 (by (first | lia | omega)))) Evs.nil)) d1) Ev.const_none (op_isnot_none (.inl rfl))).of rfl)
      (Tr.or_false ((Tr.cmp (Ev.callF (Ev.global gde (by walk_at "ux mem")) o106 rfl (Evs.cons (Ev.local (v := .ref (H5.length + 1)) (by walk_at "ux at")) (Evs.cons (Ev.callF (Ev.global gbl (by walk_at "ux mem")) o71 rfl (Evs.cons (Ev.local (v := .ref (H5.length + 1)) (by walk_at "ux at")) (Evs.cons (Ev.local (v := .int poor) (by walk_at "ux at")) Evs.nil)) (bisL_ok (d := d + 7) g e1 (by (first | lia | omega)))) Evs.nil)) d2) Ev.const_none (op_isnot_none (.inl rfl))).of rfl) Tr.or_nil)) ?_
    -- two laid in
    have i1 := insR_ok (d := d + 6) (x := rich - 1) g e2 (by (first | lia | omega))
    rw [List.set_set] at i1
    generalize hh3 : insAt h2 (bisR h2 (rich - 1)) (rich - 1) = h3 at i1
    have l3 : h3.length = 3 := by rw [← hh3, insAt_len]; (first | lia | omega)
    have e3 : (H'.set (H5.length + 1) (h3.map PV.int))[H5.length + 1]? = some (h3.map PV.int) := List.getElem?_set_self hlt0
    have i2 := insL_ok (d := d + 6) (x := poor + 1) g e3 (by (first | lia | omega))
    rw [List.set_set] at i2
    generalize hh4 : insAt h3 (bisL h3 (poor + 1)) (poor + 1) = h4 at i2
    have l4 : h4.length = 4 := by rw [← hh4, insAt_len]; (first | lia | omega)
    refine ExP.cons (Es.expr (Ev.callF (Ev.global gir (by walk_at "ux mem")) o44 rfl (Evs.cons (Ev.local (v := .ref (H5.length + 1)) (by walk_at "ux at")) (Evs.cons (Ev.callF (Ev.global gsu (by walk_at "ux mem")) o92 rfl (Evs.cons (Ev.local (v := .int rich) (by walk_at "ux at")) (Evs.cons Ev.const_int Evs.nil)) (sub_ok (d := d + 7) g)) Evs.nil)) i1)) ?_
    refine ExP.cons (Es.expr (Ev.callF (Ev.global gil (by walk_at "ux mem")) o62 rfl (Evs.cons (Ev.local (v := .ref (H5.length + 1)) (by walk_at "ux at")) (Evs.cons (Ev.callF (Ev.global gad (by walk_at "ux mem")) o78 rfl (Evs.cons (Ev.local (v := .int poor) (by walk_at "ux at")) (Evs.cons Ev.const_int Evs.nil)) (add_ok (d := d + 7) g)) Evs.nil)) i2)) ?_
    generalize hHa : H'.set (H5.length + 1) (h4.map PV.int) = Ha
    have lHa : Ha.length = H'.length := by rw [← hHa, List.length_set]
    have fa : ∀ (j : Nat) (v : List PV), j ≠ H5.length + 1 → H'[j]? = some v → Ha[j]? = some v := fun j v hj e => by rw [← hHa, List.getElem?_set_ne (Ne.symm hj)]; exact e
    have eh : Ha[H5.length + 1]? = some (h4.map PV.int) := by rw [← hHa]; exact List.getElem?_set_self hlt0
    have en : Ha[H5.length]? = some (now.map PV.int) := fa _ _ (by (first | lia | omega)) q4
    -- the row written
    have s1 := setitem_ok (d := d + 7) (i := p.1) (v := .int (rich - 1)) g en a1 (by rw [List.length_map]; (first | lia | omega)) (by (first | lia | omega))
    rw [← List.map_set] at s1
    generalize hn1 : now.set p.1.toNat (rich - 1) = n1 at s1
    have ln1 : n1.length = 4 := by rw [← hn1, List.length_set]; exact q1
    have en1 : (Ha.set H5.length (n1.map PV.int))[H5.length]? = some (n1.map PV.int) := List.getElem?_set_self (by (first | lia | omega))
    have s2 := setitem_ok (d := d + 7) (i := p.2) (v := .int (poor + 1)) g en1 a3 (by rw [List.length_map]; (first | lia | omega)) (by (first | lia | omega))
    rw [← List.map_set, List.set_set] at s2
    generalize hn2 : n1.set p.2.toNat (poor + 1) = n2 at s2
    have ln2 : n2.length = 4 := by rw [← hn2, List.length_set]; exact ln1
    have hgs : gStep (now, held) p = (n2, h4) := by
      unfold gStep
      simp only [hrich, hpoor, hh1, hh2, hh3, hh4, hn1, hn2]
    rw [hgs] at b3 b4 b5 b6 b7 b8 b9 q9
    dsimp only at b3 b4 b5 b6 b7 b8 b9
    refine ExP.skip (Tr.or_false ((Tr.cmp (Ev.callF (Ev.global gse (by walk_at "ux mem")) o120 rfl (Evs.cons (Ev.local (v := .ref H5.length) (by walk_at "ux at")) (Evs.cons (Ev.local (v := .int p.1) (by walk_at "ux at")) (Evs.cons (Ev.callF (Ev.global gsu (by walk_at "ux mem")) o92 rfl (Evs.cons (Ev.local (v := .int rich) (by walk_at "ux at")) (Evs.cons Ev.const_int Evs.nil)) (sub_ok (d := d + 7) g)) Evs.nil))) s1) Ev.const_none (op_isnot_none (.inl rfl))).of rfl)
      (Tr.or_false ((Tr.cmp (Ev.callF (Ev.global gse (by walk_at "ux mem")) o120 rfl (Evs.cons (Ev.local (v := .ref H5.length) (by walk_at "ux at")) (Evs.cons (Ev.local (v := .int p.2) (by walk_at "ux at")) (Evs.cons (Ev.callF (Ev.global gad (by walk_at "ux mem")) o78 rfl (Evs.cons (Ev.local (v := .int poor) (by walk_at "ux at")) (Evs.cons Ev.const_int Evs.nil)) (add_ok (d := d + 7) g)) Evs.nil))) s2) Ev.const_none (op_isnot_none (.inl rfl))).of rfl) Tr.or_nil)) ?_
    generalize hHc : Ha.set H5.length (n2.map PV.int) = Hc
    have fc : ∀ (j : Nat) (v : List PV), j ≠ H5.length → Ha[j]? = some v → Hc[j]? = some v := fun j v hj e => by rw [← hHc, List.getElem?_set_ne (Ne.symm hj)]; exact e
    have ehc := fc _ _ (by (first | lia | omega)) eh
    have enc : Hc[H5.length]? = some (n2.map PV.int) := by rw [← hHc]; exact List.getElem?_set_self (by (first | lia | omega))
    have low5 : ∀ (j : Nat) (v : List PV), H5[j]? = some v → Hc[j]? = some v := fun j v e => by
      have hj : j < H5.length := (List.getElem?_eq_some_iff.mp e).1
      exact fc j v (by (first | lia | omega)) (fa j v (by (first | lia | omega)) (prefix_get q3 e))
    have n2z : (n2.map PV.int).length ≤ sizeLine := by rw [List.length_map, ln2, hsl]; decide
    have kN : pickL (n2.map PV.int) none none (some (-1)) = (revF n2).map PV.int := pickL_map _ _ _ _ _
    obtain ⟨H8, c8, hp8⟩ := told_ok (d := d + 2) (total := T) (H := Hc ++ [(revF n2).map PV.int]) (i := H5.length) (j := nH) (L := n2) (R := high) g (prefix_get (List.prefix_append _ _) enc) (prefix_get (List.prefix_append _ _) (low5 _ _ hH)) (by (first | lia | omega)) (by (first | lia | omega)) b6 (near_all ln2 hlh b8)
    have hcp : Hc <+: H8 := (List.prefix_append _ _).trans hp8
    obtain ⟨H9, c9, hp9⟩ := told_ok (d := d + 2) (total := T) (i := nL) (j := H5.length) (L := low) (R := n2) g (prefix_get hcp (low5 _ _ hL)) (prefix_get hcp enc) (by (first | lia | omega)) (by (first | lia | omega)) b7 (near_all hll ln2 b9)
    unfold balS at b4 b5
    rw [b4] at c8
    rw [b5] at c9
    refine ExP.skip (Tr.or_false ((Tr.cmpR (Ev.local (v := .ref (H5.length + 1)) (by walk_at "ux at")) (kN ▸ Ev.sliceK (Ev.local (v := .ref H5.length) (by walk_at "ux at")) enc EvP.none EvP.none (Ev.neg Ev.const_int) (by decide) n2z) (op_ne_ints (prefix_get (List.prefix_append _ _) ehc) (get_last _ _))).of (by rw [b3]; simp))
      (Tr.or_false ((Tr.cmp (Ev.callF (Ev.global gto (by walk_at "ux mem")) o141 rfl (Evs.cons (Ev.local (v := .ref H5.length) (by walk_at "ux at")) (Evs.cons (Ev.local (v := .ref nH) (by walk_at "ux at")) (Evs.cons (Ev.local (v := .int T) (by walk_at "ux at")) Evs.nil))) c8) Ev.const_bool op_isnot_bool).of rfl)
      (Tr.or_false ((Tr.cmp (Ev.callF (Ev.global gto (by walk_at "ux mem")) o141 rfl (Evs.cons (Ev.local (v := .ref nL) (by walk_at "ux at")) (Evs.cons (Ev.local (v := .ref H5.length) (by walk_at "ux at")) (Evs.cons (Ev.local (v := .int T) (by walk_at "ux at")) Evs.nil))) c9) Ev.const_bool op_isnot_bool).of rfl) Tr.or_nil))) ?_
    have hfin := hcp.trans hp9
    have hnGlt : ∀ (j : Nat) (v : List PV), j ≠ H5.length → j ≠ H5.length + 1 → H'[j]? = some v → H9[j]? = some v := fun j v h1 h2 e => prefix_get hfin (fc j v h1 (fa j v h2 e))
    have hyn : ∀ a b : Int, now.map PV.int ≠ [.int a, .int b] := fun a b e => by have := congrArg List.length e; simp at this; (first | lia | omega)
    have hyh : ∀ a b : Int, held.map PV.int ≠ [.int a, .int b] := fun a b e => by have := congrArg List.length e; simp at this; (first | lia | omega)
    refine ExP.nil ⟨rfl, n2, h4, _, _, _, _, rfl, ln2, l4, ?_, prefix_get hfin enc, prefix_get hfin ehc, ?_, ?_, q9⟩
    · have h1 : H5 <+: Ha := by rw [← hHa]; exact pre_set q3 (Nat.le_succ _)
      have h2 : H5 <+: Hc := by rw [← hHc]; exact pre_set h1 (Nat.le_refl _)
      exact h2.trans hfin
    · have hno : ∀ L : List Int, ys ≠ L.map PV.int := fun L e => by
        rw [e, List.getElem?_map] at hy
        obtain ⟨z, _, hz⟩ := Option.map_eq_some_iff.mp hy
        cases hz
      refine hnGlt nG ys (fun q => ?_) (fun q => ?_) q6
      · rw [q, q4] at q6; exact hno now (Option.some.inj q6).symm
      · rw [q, q5] at q6; exact hno held (Option.some.inj q6).symm
    · refine q7.mono fun j a b e => hnGlt j _ (fun q => ?_) (fun q => ?_) e
      · rw [q, q4] at e; exact hyn a b (Option.some.inj e)
      · rw [q, q5] at e; exact hyh a b (Option.some.inj e)
  · obtain ⟨now, held, o1, o2, o3, o4, rfl, q1, q2, q3, q4, q5, q6, q7, q8⟩ := hIv
    rw [List.length_map, q7.len, List.drop_length] at q8
    have hnl : now = low := by simpa [giftsOK] using q8
    subst hnl
    refine ExP.ret (Ev.cmpR (Ev.local (v := .ref H5.length) (by walk_at "ux at")) (Ev.local (v := .ref nL) (by walk_at "ux at")) (op_eq_ints q4 (prefix_get q3 hL))) ?_
    simp
end

section
variable {G : Gd} {cs : Scope} {d : Nat} {m m₁ m₂ m' : Mem} {H H₁ H₂ H₃ H' : Hp} {pos : Pos}

theorem ExP.compI {Post : PF → Mem → Hp → Prop} {sts : List Stmt} {x y : Str} {px py spos : Pos} {scope : Scope} {elt iter : Expr} {ok : Hp → Prop} (hs : ScopeOK scope cs) (ts : List Int) (hi : ItbS G cs d m H (.Name x px) iter (ts.map fun t => ItP.of (.int t)) ok H₁) (f : Int → Int) (Mf : Option Int → Mem) (hmf : ∀ o, MF cs.names m scope.names (Mf o)) (hin : Init scope.names (Mf none)) (hz : ts.length ≤ 1000)
    (hasg : ∀ t o H, Asg G (relabelS scope cs) d (.Name x px) (.of (.int t)) (Mf o) H (Mf (some t))) (hok : ∀ H', H₁ <+: H' → ok H')
    (helt : ∀ t H', t ∈ ts → H₁ <+: H' → EvE G (relabelS scope cs) d (Mf (some t)) H' elt (fun r H'' => H' <+: H'' ∧ r = .int (f t)))
    (hsw : ∀ env, env.scope = cs → env.kindOf y = some .local → swapsWith (.ListComp elt [⟨.Name x px, iter, [], 0⟩] scope pos) (some (.Name y py)) spos.line env = pure true)
    (hput : Put (.ref H₁.length) y .local cs.names m m')
    (rest : ∀ H', H₁ <+: H' → H'[H₁.length]? = some ((ts.map f).map PV.int) → ExP G cs d m' H' sts Post) (hf : ∀ env x, foldedSetIterable iter env x = pure x := by intro _ _; rfl) :
    ExP G cs d m H (.Assign [.Name y py] (.ListComp elt [⟨.Name x px, iter, [], 0⟩] scope pos) spos :: sts) Post := by
  refine ExP.comp1 hs hi ts Mf hmf hin (fun k r _ => ∃ t, ts[k]? = some t ∧ r = .int (f t)) (by simp) hz (fun k P t o H h1 h2 => ?_) hok (fun _ _ _ _ _ h => h) (fun k t H' ht hp' hlt => ?_) hsw hput (fun H' rs h1 h2 h3 h4 h5 => ?_) hf
  · rw [List.getElem?_map, h2] at h1
    cases h1
    exact hasg t o H
  · obtain ⟨r, H'', e1, e2, e3⟩ := helt t H' (List.mem_of_getElem? ht) hp'
    exact ⟨r, H'', e1, e2, t, ht, e3⟩
  · have : rs = (ts.map f).map PV.int := rs_ints (by simp [h4]) fun k r hr => by
      obtain ⟨t, ht, e⟩ := h5 k r hr
      exact ⟨f t, by rw [List.getElem?_map, ht]; rfl, e⟩
    rw [this] at h3
    exact rest H' h1 h3

set_option maxRecDepth 100000 in
set_option maxHeartbeats 8000000 in
theorem law_tail (g : GOK G) {l : Addr} {fd : FuncData} {oc : Value} {od : Option Addr} {sl : Array (Option Value)} (hlaw : (KH G.w.params).lookup 160 = some ⟨oc, od, .func fd, sl⟩) {body : List Stmt} (hb : fd.body = .stmts body) {M Y : List Int} {o : Option PV} {T gap : Int} {x0 sz nD nT nB nC nO : Nat} {xsT xsB : List PV} {H5 : Hp} (hOK : LawOK M Y) (hM : M.length = 4) (hY : Y.length = 4) (hMi' : H5[x0]? = some (M.map PV.int)) (hYi' : H5[x0 + 1]? = some (Y.map PV.int))
    (hT1 : H5[nT]? = some xsT) (hT2 : Pcs H5 xsT (sgM M Y)) (hB1 : H5[nB]? = some xsB) (hB2 : Pcs H5 xsB (sgY M Y)) (hboth : ¬ (balS (sgM M Y) = false ∧ balS (sgY M Y) = false)) :
    ExP G fd.scope (d + 8) [some (.glob (.ref l)), o, some (.ref 1), some (.int T), some (.int gap), some (.ref x0), some (.ref (x0 + 1)), some (.int sz), some (.ref nD), some (.ref nT), some (.ref nB), some (.bool (balS (sgM M Y))), some (.bool (balS (sgY M Y))), some (.ref nC), some (.ref nO), none, none, none, none, none, none, none, none, none, none, none, none, none, none, none, none, none, none, none, none, none, none, none, none] H5 (body.drop 20) (fun f m' H' => f = .ret (.bool true)) := by
  have hlaw' := hlaw
  cases hlaw
  cases hb
  have hsl : sizeLine = 16777216 := by decide +kernel
  have hMz : (M.map PV.int).length ≤ sizeLine := by rw [List.length_map, hM, hsl]; decide
  have hYz : (Y.map PV.int).length ≤ sizeLine := by rw [List.length_map, hY, hsl]; decide
  have kM : pickL (M.map PV.int) none none (some (-1)) = (revF M).map PV.int := pickL_map _ _ _ _ _
  have kY : pickL (Y.map PV.int) none none (some (-1)) = (revF Y).map PV.int := pickL_map _ _ _ _ _
  have gi1 := hOK.gi1
  have gi2 := hOK.gi2
  have s1 := hOK.s1
  have s2 := hOK.s2
  have hrM := hOK.rM
  have hrY := hOK.rY
  have hrrM := hOK.rrM
  have hrrY := hOK.rrY
  generalize hu : balS (sgM M Y) = u at *
  generalize hw : balS (sgY M Y) = w at *
  cases u with
  | true =>
    refine ExP.cons (Es.assign (Ev.ifexp (b := true) (Tr.name (Ev.local (v := .bool true) (by walk_at "ux at"))) (kM ▸ Ev.sliceK (Ev.cell (v := .ref x0) (by walk_at "ux at")) hMi' EvP.none EvP.none (Ev.neg Ev.const_int) (by decide) hMz)) (by walk_at "ux put")) ?_
    refine ExP.cons (Es.assign (Ev.ifexp (b := true) (Tr.name (Ev.local (v := .bool true) (by walk_at "ux at"))) (kY ▸ Ev.sliceK (Ev.cell (v := .ref (x0 + 1)) (by walk_at "ux at")) (prefix_get (List.prefix_append _ _) hYi') EvP.none EvP.none (Ev.neg Ev.const_int) (by decide) hYz)) (by walk_at "ux put")) ?_
    have hp : H5 <+: H5 ++ [(revF M).map PV.int] ++ [(revF Y).map PV.int] := (List.prefix_append _ _).trans (List.prefix_append _ _)
    exact law_end (u := true) g hlaw' rfl hrM hrY (prefix_get (List.prefix_append _ _) (get_last _ _)) (get_last _ _) hrrY (prefix_get hp hT1) (hT2.pre hp) s1 (gi1 rfl)
  | false =>
    have hw' : w = true := by
      cases w with
      | true => rfl
      | false => exact absurd ⟨rfl, rfl⟩ hboth
    subst hw'
    refine ExP.cons (Es.assign (Ev.ifexp (b := false) (Tr.name (Ev.local (v := .bool false) (by walk_at "ux at"))) (kY ▸ Ev.sliceK (Ev.cell (v := .ref (x0 + 1)) (by walk_at "ux at")) hYi' EvP.none EvP.none (Ev.neg Ev.const_int) (by decide) hYz)) (by walk_at "ux put")) ?_
    refine ExP.cons (Es.assign (Ev.ifexp (b := false) (Tr.name (Ev.local (v := .bool false) (by walk_at "ux at"))) (kM ▸ Ev.sliceK (Ev.cell (v := .ref x0) (by walk_at "ux at")) (prefix_get (List.prefix_append _ _) hMi') EvP.none EvP.none (Ev.neg Ev.const_int) (by decide) hMz)) (by walk_at "ux put")) ?_
    have hp : H5 <+: H5 ++ [(revF Y).map PV.int] ++ [(revF M).map PV.int] := (List.prefix_append _ _).trans (List.prefix_append _ _)
    exact law_end (u := false) g hlaw' rfl hrY hrM (prefix_get (List.prefix_append _ _) (get_last _ _)) (get_last _ _) hrrM (prefix_get hp hB1) (hB2.pre hp) s2 (gi2 rfl rfl)

set_option maxRecDepth 100000 in
set_option maxHeartbeats 8000000 in
theorem law_cols (g : GOK G) {l : Addr} {fd : FuncData} {oc : Value} {od : Option Addr} {sl : Array (Option Value)} (hlaw : (KH G.w.params).lookup 160 = some ⟨oc, od, .func fd, sl⟩) {body : List Stmt} (hb : fd.body = .stmts body) {M Y : List Int} {o : Option PV} {T gap : Int} {x0 sz nD nT nB : Nat} {xsT xsB : List PV} {H5 : Hp} (hOK : LawOK M Y) (hM : M.length = 4) (hY : Y.length = 4) (hsz : maxL (M ++ Y) = sz) (hMi' : H5[x0]? = some (M.map PV.int)) (hYi' : H5[x0 + 1]? = some (Y.map PV.int))
    (hT1 : H5[nT]? = some xsT) (hT2 : Pcs H5 xsT (sgM M Y)) (hB1 : H5[nB]? = some xsB) (hB2 : Pcs H5 xsB (sgY M Y)) :
    ExP G fd.scope (d + 8) [some (.glob (.ref l)), o, some (.ref 1), some (.int T), some (.int gap), some (.ref x0), some (.ref (x0 + 1)), some (.int sz), some (.ref nD), some (.ref nT), some (.ref nB), some (.bool (balS (sgM M Y))), some (.bool (balS (sgY M Y))), none, none, none, none, none, none, none, none, none, none, none, none, none, none, none, none, none, none, none, none, none, none, none, none, none, none] H5 (body.drop 16) (fun f m' H' => f = .ret (.bool true)) := by
  have hlaw' := hlaw
  cases hlaw
  cases hb
  have hsl : sizeLine = 16777216 := by decide +kernel
  have brange : G.mg (Str.ofString "range") = none := mg_none_of g.X G.g rfl
  have gbr : G.mg (Str.ofString "bisect_right") = some (.ref 53) := mg_of g.X G.g rfl
  have o53 := g.X 53 _ rfl
  have gbl : G.mg (Str.ofString "bisect_left") = some (.ref 71) := mg_of g.X G.g rfl
  have o71 := g.X 71 _ rfl
  have gsu : G.mg (Str.ofString "sub") = some (.ref 92) := mg_of g.X G.g rfl
  have o92 := g.X 92 _ rfl
  have gto : G.mg (Str.ofString "_law_told") = some (.ref 141) := mg_of g.X G.g rfl
  have o141 := g.X 141 _ rfl
  have hsmall := hOK.small
  have t1 := hOK.told1
  have t2 := hOK.told2
  have l1 := hOK.lo1
  have l2 := hOK.lo2
  have dvc := hOK.dvc
  unfold colF othF at t1 t2 l1 l2 dvc
  rw [hsz] at hsmall t1 t2 l1 l2 dvc
  rw [show ((sz : Int)).toNat = sz from Int.toNat_natCast sz] at t1 t2 l1 l2 dvc
  have hrl : (rng 0 1 sz).length = sz := by simp [rng]
  refine ExP.compI (ScopeOK.of rfl rfl (by decide) (by rfl)) (rng 0 1 sz) (ItbS.range1 (n := sz) brange (by walk_at "ux mem") (Ev.cell (v := .int sz) (by walk_at "ux at")) (by (first | lia | omega))) (fun t => 4 - (bisR M t : Int)) (fun o => [none, o.map .int, none, none, some (.ref x0)]) (fun o => by walk_at "ux mf") (by walk_at "ux init") (by (first | lia | omega)) (fun t o H => Asg.name (by walk_at "ux put")) (fun _ _ => trivial)
    (fun t H' ht hp => EvE.ev (Ev.callF (Ev.global gsu (by walk_at "ux mem")) o92 rfl (Evs.cons Ev.const_int (Evs.cons (Ev.callF (Ev.global gbr (by walk_at "ux mem")) o53 rfl (Evs.cons (Ev.cell (v := .ref x0) (by walk_at "ux at")) (Evs.cons (Ev.local (v := .int t) (by walk_at "ux at")) Evs.nil)) (bisR_ok (d := d + 7) g (prefix_get hp hMi') (by (first | lia | omega)))) Evs.nil)) (sub_ok (d := d + 7) g)) ⟨List.prefix_refl _, rfl⟩)
    (fun env he hk => swaps_list he hk rfl) (by walk_at "ux put") (fun H6 hp6 hC => ?_)
  refine ExP.compI (ScopeOK.of rfl rfl (by decide) (by rfl)) (rng 0 1 sz) (ItbS.range1 (n := sz) brange (by walk_at "ux mem") (Ev.cell (v := .int sz) (by walk_at "ux at")) (by (first | lia | omega))) (fun t => 4 - (bisL Y (t + 1) : Int)) (fun o => [none, o.map .int, none, none, some (.ref (x0 + 1))]) (fun o => by walk_at "ux mf") (by walk_at "ux init") (by (first | lia | omega)) (fun t o H => Asg.name (by walk_at "ux put")) (fun _ _ => trivial)
    (fun t H' ht hp => EvE.ev (Ev.callF (Ev.global gsu (by walk_at "ux mem")) o92 rfl (Evs.cons Ev.const_int (Evs.cons (Ev.callF (Ev.global gbl (by walk_at "ux mem")) o71 rfl (Evs.cons (Ev.cell (v := .ref (x0 + 1)) (by walk_at "ux at")) (Evs.cons (Ev.bin (Ev.local (v := .int t) (by walk_at "ux at")) Ev.const_int op_add) Evs.nil)) (bisL_ok (d := d + 7) g (prefix_get (hp6.trans hp) hYi') (by (first | lia | omega)))) Evs.nil)) (sub_ok (d := d + 7) g)) ⟨List.prefix_refl _, rfl⟩)
    (fun env he hk => swaps_list he hk rfl) (by walk_at "ux put") (fun H7 hp7 hO => ?_)
  have hC7 := prefix_get hp7 hC
  obtain ⟨H8, c8, hp8⟩ := told_ok (d := d + 2) (total := T) g hO hC7 (by simp) (by rw [List.length_map, hrl]; (first | lia | omega)) (by (first | lia | omega)) dvc
  obtain ⟨H9, c9, hp9⟩ := told_ok (d := d + 2) (total := T) g (prefix_get hp8 hC7) (prefix_get hp8 hO) (by simp) (by rw [List.length_map, hrl]; (first | lia | omega)) (by (first | lia | omega)) (fun k => by have := dvc k; (first | lia | omega))
  unfold balS at t1 t2
  rw [t1] at c8
  rw [t2] at c9
  refine ExP.skip (Tr.or_false ((Tr.cmp (Ev.callF (Ev.global gto (by walk_at "ux mem")) o141 rfl (Evs.cons (Ev.local (v := .ref H6.length) (by walk_at "ux at")) (Evs.cons (Ev.local (v := .ref H5.length) (by walk_at "ux at")) (Evs.cons (Ev.local (v := .int T) (by walk_at "ux at")) Evs.nil))) c8) (Ev.local (v := .bool (balS (sgM M Y))) (by walk_at "ux at")) op_isnot_bool).of (by simp [balS])) (Tr.or_false ((Tr.cmp (Ev.callF (Ev.global gto (by walk_at "ux mem")) o141 rfl (Evs.cons (Ev.local (v := .ref H5.length) (by walk_at "ux at")) (Evs.cons (Ev.local (v := .ref H6.length) (by walk_at "ux at")) (Evs.cons (Ev.local (v := .int T) (by walk_at "ux at")) Evs.nil))) c9) (Ev.local (v := .bool (balS (sgY M Y))) (by walk_at "ux at")) op_isnot_bool).of (by simp [balS])) Tr.or_nil)) ?_
  have hpE := hp6.trans (hp7.trans (hp8.trans hp9))
  by_cases hboth : balS (sgM M Y) = false ∧ balS (sgY M Y) = false
  · refine ExP.take (Tr.and_true ((Tr.cmp (Ev.local (v := .bool (balS (sgM M Y))) (by walk_at "ux at")) Ev.const_bool op_is_bool).of (by rw [hboth.1]; rfl)) (Tr.and_true ((Tr.cmp (Ev.local (v := .bool (balS (sgY M Y))) (by walk_at "ux at")) Ev.const_bool op_is_bool).of (by rw [hboth.2]; rfl)) Tr.and_nil)) (ExP.ret Ev.const_bool ⟨by walk_at "ux flow", rfl⟩)
  · have htail := law_tail (d := d) (o := o) (T := T) (gap := gap) (sz := sz) (nD := nD) (nC := H5.length) (nO := H6.length) (l := l) g hlaw' rfl hOK hM hY (prefix_get hpE hMi') (prefix_get hpE hYi') (prefix_get hpE hT1) (hT2.pre hpE) (prefix_get hpE hB1) (hB2.pre hpE) hboth
    by_cases hu : balS (sgM M Y) = false
    · have hw : balS (sgY M Y) = true := by
        cases q : balS (sgY M Y) with
        | true => rfl
        | false => exact absurd ⟨hu, q⟩ hboth
      exact ExP.skip (Tr.and_true ((Tr.cmp (Ev.local (v := .bool (balS (sgM M Y))) (by walk_at "ux at")) Ev.const_bool op_is_bool).of (by rw [hu]; rfl)) (Tr.and_false ((Tr.cmp (Ev.local (v := .bool (balS (sgY M Y))) (by walk_at "ux at")) Ev.const_bool op_is_bool).of (by rw [hw]; rfl)))) htail
    · exact ExP.skip (Tr.and_false ((Tr.cmp (Ev.local (v := .bool (balS (sgM M Y))) (by walk_at "ux at")) Ev.const_bool op_is_bool).of (by simpa using hu))) htail
end

section
variable {G : Gd} {cs : Scope} {d : Nat} {m m₁ m₂ m' : Mem} {H H₁ H₂ H₃ H' : Hp} {pos : Pos}

theorem LLs.pre : ∀ {ps : List PV} {nss : List (List Int)}, LLs H ps nss → H <+: H' → LLs H' ps nss
  | [], [], _, _ => trivial
  | p :: ps, ns :: r, ⟨⟨i, e, h⟩, hr⟩, hp => ⟨⟨i, e, prefix_get hp h⟩, LLs.pre hr hp⟩
  | [], _ :: _, h, _ => h.elim
  | _ :: _, [], h, _ => h.elim
theorem LLs.two {xs : List PV} {a b : List Int} (h : LLs H xs [a, b]) : ∃ i j, xs = [.ref i, .ref j] ∧ H[i]? = some (a.map PV.int) ∧ H[j]? = some (b.map PV.int) := by
  rcases xs with _ | ⟨x, _ | ⟨y, _ | ⟨z, r⟩⟩⟩
  · exact (show False from h).elim
  · exact (show False from h.2).elim
  · obtain ⟨⟨i, e1, h1⟩, ⟨j, e2, h2⟩, _⟩ := h
    exact ⟨i, j, by rw [e1, e2], h1, h2⟩
  · exact (show False from h.2.2).elim
theorem EvE.cmp {l r : Expr} {op : CmpOp} {P Q : PV → Hp → Prop} {Q' : PV → PV → Hp → Prop} (hl : EvE G cs d m H l Q) (hr : ∀ a H', Q a H' → EvE G cs d m H' r (Q' a)) (ho : ∀ a b H', Q' a b H' → ∃ v, OpR G d (compareOp op) a b H' v H' ∧ P v H') (hm : behindInMarks op r = false := by with_unfolding_all rfl) : EvE G cs d m H (.Compare l [op] [r] pos) P := by
  obtain ⟨a, H1, h1, q1⟩ := hl
  obtain ⟨b, H2, h2, q2⟩ := hr a H1 q1
  obtain ⟨v, h3, q3⟩ := ho a b H2 q2
  exact ⟨v, H2, Ev.cmpR h1 h2 h3 hm, q3⟩

theorem Op2.toR' {t : Value → Value → Sem Value} {a b v v' : PV} (h : Op2 G t a b v) (e : v = v') : OpR G d t a b H v' H := e ▸ h.toR
set_option maxRecDepth 100000 in
set_option maxHeartbeats 8000000 in
theorem law_ifs (g : GOK G) {l : Addr} {fd : FuncData} {oc : Value} {od : Option Addr} {sl : Array (Option Value)} (hlaw : (KH G.w.params).lookup 160 = some ⟨oc, od, .func fd, sl⟩) {body : List Stmt} (hb : fd.body = .stmts body) {M Y : List Int} {o : Option PV} {T gap : Int} {x0 sz nD nT nB : Nat} {xsD xsT xsB : List PV} {H5 : Hp} (hOK : LawOK M Y) (hM : M.length = 4) (hY : Y.length = 4) (hsz : maxL (M ++ Y) = sz) (hMi' : H5[x0]? = some (M.map PV.int)) (hYi' : H5[x0 + 1]? = some (Y.map PV.int))
    (hD1 : H5[nD]? = some xsD) (hD2 : LLs H5 xsD [(rng 0 1 sz).map (dueF M), (rng 0 1 sz).map (dueF Y)]) (hT1 : H5[nT]? = some xsT) (hT2 : Pcs H5 xsT (sgM M Y)) (hB1 : H5[nB]? = some xsB) (hB2 : Pcs H5 xsB (sgY M Y)) :
    ExP G fd.scope (d + 8) [some (.glob (.ref l)), o, some (.ref 1), some (.int T), some (.int gap), some (.ref x0), some (.ref (x0 + 1)), some (.int sz), some (.ref nD), some (.ref nT), some (.ref nB), some (.bool (balS (sgM M Y))), some (.bool (balS (sgY M Y))), none, none, none, none, none, none, none, none, none, none, none, none, none, none, none, none, none, none, none, none, none, none, none, none, none, none] H5 (body.drop 13) (fun f m' H' => f = .ret (.bool true)) := by
  have hlaw' := hlaw
  cases hlaw
  cases hb
  have hsl : sizeLine = 16777216 := by decide +kernel
  have brange : G.mg (Str.ofString "range") = none := mg_none_of g.X G.g rfl
  have gta : G.mg (Str.ofString "_law_taken") = some (.ref 134) := mg_of g.X G.g rfl
  have o134 := g.X 134 _ rfl
  have hs1 := hOK.s1
  have hs2 := hOK.s2
  have hsmall := hOK.small
  have hun := hOK.un
  have hov := hOK.ov
  have heq := hOK.eq3
  unfold moreF at hun
  unfold moreG at hov
  rw [hsz] at hun hov hsmall
  rw [show ((sz : Int)).toNat = sz from Int.toNat_natCast sz] at hun hov
  obtain ⟨i0, i1, rfl, hd0, hd1⟩ := LLs.two hD2
  have due0 : ∀ {H' : Hp} {cs' : Scope} {m' : Mem} {t : Int} {p1 p2 p3 p4 p5 : Pos} {k : Nat}, H5 <+: H' → t ∈ rng 0 1 sz → At (.ref nD) "due" .cell cs'.names m' → At (.int t) "t" .local cs'.names m' → Ev G cs' (d + 8) m' H' (.Subscript (.Subscript (.Name "due" p1) (.Constant (.int 0) k p2) p3) (.Name "t" p4) p5) (.int (dueF M t)) H' := fun hp ht a1 a2 => by
    have hr := rng_mem ht
    exact Ev.itemG (Ev.item (i := 0) (v := .ref i0) (Ev.cell a1) Ev.const_int (prefix_get hp hD1) (by decide) (by decide) rfl) (Ev.local a2) (prefix_get hp hd0) hr.1 (by (first | lia | omega)) (rng_get ht)
  have due1 : ∀ {H' : Hp} {cs' : Scope} {m' : Mem} {t : Int} {p1 p2 p3 p4 p5 : Pos} {k : Nat}, H5 <+: H' → t ∈ rng 0 1 sz → At (.ref nD) "due" .cell cs'.names m' → At (.int t) "t" .local cs'.names m' → Ev G cs' (d + 8) m' H' (.Subscript (.Subscript (.Name "due" p1) (.Constant (.int 1) k p2) p3) (.Name "t" p4) p5) (.int (dueF Y t)) H' := fun hp ht a1 a2 => by
    have hr := rng_mem ht
    exact Ev.itemG (Ev.item (i := 1) (v := .ref i1) (Ev.cell a1) Ev.const_int (prefix_get hp hD1) (by decide) (by decide) rfl) (Ev.local a2) (prefix_get hp hd1) hr.1 (by (first | lia | omega)) (rng_get ht)
  -- under
  refine ExP.skipE (P := fun b H' => b = false ∧ H5 <+: H') (TrE.cmp (Q := fun v H' => v = .bool (balS (sgM M Y)) ∧ H' = H5) (Q' := fun a b H' => a = .bool (balS (sgM M Y)) ∧ b = .bool (balS (sgM M Y)) ∧ H5 <+: H') (EvE.ev (Ev.local (v := .bool (balS (sgM M Y))) (by walk_at "ux at")) ⟨rfl, rfl⟩)
    (fun a H' hq => EvE.cmp (Q := fun v H' => a = .bool (balS (sgM M Y)) ∧ ∃ n, v = .ref n ∧ H5 <+: H' ∧ H'[n]? = some (((rng 0 1 sz).filter fun t => decide (dueF M t > dueF Y t)).map PV.int)) (Q' := fun v u H' => a = .bool (balS (sgM M Y)) ∧ H5 <+: H' ∧ ∃ n n', v = .ref n ∧ u = .ref n' ∧ H'[n]? = some (((rng 0 1 sz).filter fun t => decide (dueF M t > dueF Y t)).map PV.int) ∧ H'[n']? = some (([] : List Int).map PV.int))
      (EvE.compF (ScopeOK.of rfl rfl (by decide) (by rfl)) (rng 0 1 sz) (ItbS.range1 (n := sz) brange (by walk_at "ux mem") (Ev.cell (v := .int sz) (by walk_at "ux at")) (by (first | lia | omega))) (fun t => decide (dueF M t > dueF Y t)) (fun o => [none, o.map .int, some (.ref nD)]) (fun o => by walk_at "ux mf") (by walk_at "ux init") (by simp [rng]; (first | lia | omega)) (fun t o H => Asg.name (by walk_at "ux put")) (fun _ _ => trivial) (fun t H' ht hp => Tr.cmp (due0 (hq.2 ▸ hp) ht (by walk_at "ux at") (by walk_at "ux at")) (due1 (hq.2 ▸ hp) ht (by walk_at "ux at") (by walk_at "ux at")) op_gt) (fun t H' => Ev.local (by walk_at "ux at")) (fun H' q1 q2 => ⟨hq.1, _, rfl, hq.2 ▸ q1, q2⟩))
      (fun v H' ⟨q0, n, q1, q2, q3⟩ => EvE.ev (Ev.list Evs.nil (by simp)) ⟨q0, q2.trans (List.prefix_append _ _), n, _, q1, rfl, prefix_get (List.prefix_append _ _) q3, get_last _ _⟩)
      (fun v u H' ⟨q0, q1, n, n', q2, q3, q4, q5⟩ => ⟨_, by subst q2 q3; exact op_eq_ints q4 q5, q0, by rw [hun], q1⟩))
    (fun a b H' ⟨q1, q2, q3⟩ => ⟨false, by subst q1 q2; exact (op_isnot_bool (G := G)).toR' (by simp), rfl, q3⟩)) ?_
  rintro b H6 ⟨rfl, hp6⟩
  refine ⟨rfl, ?_⟩
  -- over
  refine ExP.skipE (P := fun b H' => b = false ∧ H6 <+: H') (TrE.cmp (Q := fun v H' => v = .bool (balS (sgY M Y)) ∧ H' = H6) (Q' := fun a b H' => a = .bool (balS (sgY M Y)) ∧ b = .bool (balS (sgY M Y)) ∧ H6 <+: H') (EvE.ev (Ev.local (v := .bool (balS (sgY M Y))) (by walk_at "ux at")) ⟨rfl, rfl⟩)
    (fun a H' hq => EvE.cmp (Q := fun v H' => a = .bool (balS (sgY M Y)) ∧ ∃ n, v = .ref n ∧ H6 <+: H' ∧ H'[n]? = some (((rng 0 1 sz).filter fun t => decide (dueF Y t > dueF M t)).map PV.int)) (Q' := fun v u H' => a = .bool (balS (sgY M Y)) ∧ H6 <+: H' ∧ ∃ n n', v = .ref n ∧ u = .ref n' ∧ H'[n]? = some (((rng 0 1 sz).filter fun t => decide (dueF Y t > dueF M t)).map PV.int) ∧ H'[n']? = some (([] : List Int).map PV.int))
      (EvE.compF (ScopeOK.of rfl rfl (by decide) (by rfl)) (rng 0 1 sz) (ItbS.range1 (n := sz) brange (by walk_at "ux mem") (Ev.cell (v := .int sz) (by walk_at "ux at")) (by (first | lia | omega))) (fun t => decide (dueF Y t > dueF M t)) (fun o => [none, o.map .int, some (.ref nD)]) (fun o => by walk_at "ux mf") (by walk_at "ux init") (by simp [rng]; (first | lia | omega)) (fun t o H => Asg.name (by walk_at "ux put")) (fun _ _ => trivial) (fun t H' ht hp => Tr.cmp (due1 (hp6.trans (hq.2 ▸ hp)) ht (by walk_at "ux at") (by walk_at "ux at")) (due0 (hp6.trans (hq.2 ▸ hp)) ht (by walk_at "ux at") (by walk_at "ux at")) op_gt) (fun t H' => Ev.local (by walk_at "ux at")) (fun H' q1 q2 => ⟨hq.1, _, rfl, hq.2 ▸ q1, q2⟩))
      (fun v H' ⟨q0, n, q1, q2, q3⟩ => EvE.ev (Ev.list Evs.nil (by simp)) ⟨q0, q2.trans (List.prefix_append _ _), n, _, q1, rfl, prefix_get (List.prefix_append _ _) q3, get_last _ _⟩)
      (fun v u H' ⟨q0, q1, n, n', q2, q3, q4, q5⟩ => ⟨_, by subst q2 q3; exact op_eq_ints q4 q5, q0, by rw [hov], q1⟩))
    (fun a b H' ⟨q1, q2, q3⟩ => ⟨false, by subst q1 q2; exact (op_isnot_bool (G := G)).toR' (by simp), rfl, q3⟩)) ?_
  rintro b H7 ⟨rfl, hp7'⟩
  refine ⟨rfl, ?_⟩
  have hp7 := hp6.trans hp7'
  -- both ways
  have hT7 := prefix_get hp7 hT1
  have hB7 := prefix_get hp7 hB1
  have lT : xsT.length = (sgM M Y).length := by obtain ⟨ss, h⟩ := hT2; exact h.len.1
  have lB : xsB.length = (sgY M Y).length := by obtain ⟨ss, h⟩ := hB2; exact h.len.1
  have hcat : Pcs (H7 ++ [xsT ++ xsB] ++ [xsT ++ xsB ++ xsT]) (xsT ++ xsB ++ xsT) (sgM M Y ++ sgY M Y ++ sgM M Y) := by
    obtain ⟨s1, h1⟩ := hT2
    obtain ⟨s2, h2⟩ := hB2
    exact Pcs.pre ⟨_, (h1.append h2).append h1⟩ (hp7.trans ((List.prefix_append _ _).trans (List.prefix_append _ _)))
  obtain ⟨H8, c8, hp8⟩ := taken_ok (d := d + 3) (n := (H7 ++ [xsT ++ xsB]).length) g (get_last _ _) hcat (by simp only [List.length_append]; (first | lia | omega))
  have e3 : bal ((sgM M Y ++ sgY M Y ++ sgM M Y).map (·.2)) = decide (M = Y) := heq
  rw [e3] at c8
  have hp78 : H7 <+: H8 := ((List.prefix_append _ _).trans (List.prefix_append _ _)).trans hp8
  refine ExP.skip ((Tr.cmp (Ev.callF (Ev.global gta (by walk_at "ux mem")) o134 rfl (Evs.cons (Ev.binR (Ev.binR (Ev.local (v := .ref nT) (by walk_at "ux at")) (Ev.local (v := .ref nB) (by walk_at "ux at")) (op_cat_list hT7 hB7 (by rw [hsl]; (first | lia | omega)))) (Ev.local (v := .ref nT) (by walk_at "ux at")) (op_cat_list (get_last _ _) (prefix_get (List.prefix_append _ _) hT7) (by rw [List.length_append, hsl]; (first | lia | omega)))) Evs.nil) c8) (Ev.cmpR (Ev.cell (v := .ref x0) (by walk_at "ux at")) (Ev.cell (v := .ref (x0 + 1)) (by walk_at "ux at")) (op_eq_ints (prefix_get (hp7.trans hp78) hMi') (prefix_get (hp7.trans hp78) hYi'))) op_isnot_bool).of (by simp)) ?_
  have hpE := hp7.trans hp78
  exact law_cols g hlaw' rfl hOK hM hY hsz (prefix_get hpE hMi') (prefix_get hpE hYi') (prefix_get hpE hT1) (hT2.pre hpE) (prefix_get hpE hB1) (hB2.pre hpE)
end

section
variable {G : Gd} {cs : Scope} {d : Nat} {m m₁ m₂ m' : Mem} {H H₁ H₂ H₃ H' : Hp} {pos : Pos}

set_option maxRecDepth 100000 in
set_option maxHeartbeats 8000000 in
theorem law_mid (g : GOK G) {l : Addr} {fd : FuncData} {oc : Value} {od : Option Addr} {sl : Array (Option Value)} (hlaw : (KH G.w.params).lookup 160 = some ⟨oc, od, .func fd, sl⟩) {body : List Stmt} (hb : fd.body = .stmts body) {M Y : List Int} {o : Option PV} {T gap : Int} {x0 sz nD : Nat} {xsD : List PV} {H5 : Hp} (hOK : LawOK M Y) (hM : M.length = 4) (hY : Y.length = 4) (hsz : maxL (M ++ Y) = sz) (hMi' : H5[x0]? = some (M.map PV.int)) (hYi' : H5[x0 + 1]? = some (Y.map PV.int))
    (hD1 : H5[nD]? = some xsD) (hD2 : LLs H5 xsD [(rng 0 1 sz).map (dueF M), (rng 0 1 sz).map (dueF Y)]) :
    ExP G fd.scope (d + 8) [some (.glob (.ref l)), o, some (.ref 1), some (.int T), some (.int gap), some (.ref x0), some (.ref (x0 + 1)), some (.int sz), some (.ref nD), none, none, none, none, none, none, none, none, none, none, none, none, none, none, none, none, none, none, none, none, none, none, none, none, none, none, none, none, none, none] H5 (body.drop 9) (fun f m' H' => f = .ret (.bool true)) := by
  have hlaw' := hlaw
  cases hlaw
  cases hb
  have hsl : sizeLine = 16777216 := by decide +kernel
  have brange : G.mg (Str.ofString "range") = none := mg_none_of g.X G.g rfl
  have gpi : G.mg (Str.ofString "_law_pieces") = some (.ref 127) := mg_of g.X G.g rfl
  have o127 := g.X 127 _ rfl
  have gta : G.mg (Str.ofString "_law_taken") = some (.ref 134) := mg_of g.X G.g rfl
  have o134 := g.X 134 _ rfl
  have hrM := hOK.rM
  have hrY := hOK.rY
  have hs1 := hOK.s1
  have hs2 := hOK.s2
  have hdv := hOK.dv
  have hsmall := hOK.small
  have hun := hOK.un
  have hov := hOK.ov
  have heq := hOK.eq3
  unfold moreF at hun
  unfold moreG at hov
  unfold balS at hun hov heq
  rw [hsz] at hun hov hsmall
  rw [show ((sz : Int)).toNat = sz from Int.toNat_natCast sz] at hun hov
  have hMz : (M.map PV.int).length ≤ sizeLine := by rw [List.length_map, hM, hsl]; decide
  have hYz : (Y.map PV.int).length ≤ sizeLine := by rw [List.length_map, hY, hsl]; decide
  have kM : pickL (M.map PV.int) none none (some (-1)) = (revF M).map PV.int := pickL_map _ _ _ _ _
  have kY : pickL (Y.map PV.int) none none (some (-1)) = (revF Y).map PV.int := pickL_map _ _ _ _ _
  -- there
  obtain ⟨v7, H7, c7, hp7, nT, xsT, rfl, hT1, hT2⟩ := pieces_ok (d := d + 6) (H := H5 ++ [(revF M).map PV.int] ++ [(revF Y).map PV.int]) (i := H5.length) (j := (H5 ++ [(revF M).map PV.int]).length) (L := revF M) (R := revF Y) (total := T) g (prefix_get (List.prefix_append _ _) (get_last _ _)) (get_last _ _) (by (first | lia | omega)) (by (first | lia | omega)) (by unfold sgM at hs1; (first | lia | omega)) hdv
  refine ExP.cons (Es.assign (v := .ref nT) (Ev.callF (Ev.global gpi (by walk_at "ux mem")) o127 rfl (Evs.cons (kM ▸ Ev.sliceK (Ev.cell (v := .ref x0) (by walk_at "ux at")) hMi' EvP.none EvP.none (Ev.neg Ev.const_int) (by decide) hMz) (Evs.cons (kY ▸ Ev.sliceK (Ev.cell (v := .ref (x0 + 1)) (by walk_at "ux at")) (prefix_get (List.prefix_append _ _) hYi') EvP.none EvP.none (Ev.neg Ev.const_int) (by decide) hYz) (Evs.cons (Ev.local (v := .int T) (by walk_at "ux at")) Evs.nil))) c7) (by walk_at "ux put")) ?_
  have hp5 : H5 <+: H7 := ((List.prefix_append _ _).trans (List.prefix_append _ _)).trans hp7
  -- back
  obtain ⟨v8, H8, c8, hp8, nB, xsB, rfl, hB1, hB2⟩ := pieces_ok (d := d + 6) (H := H7 ++ [(revF Y).map PV.int] ++ [(revF M).map PV.int]) (i := H7.length) (j := (H7 ++ [(revF Y).map PV.int]).length) (L := revF Y) (R := revF M) (total := T) g (prefix_get (List.prefix_append _ _) (get_last _ _)) (get_last _ _) (by (first | lia | omega)) (by (first | lia | omega)) (by unfold sgY at hs2; (first | lia | omega)) (fun k => by have := hdv k; (first | lia | omega))
  refine ExP.cons (Es.assign (v := .ref nB) (Ev.callF (Ev.global gpi (by walk_at "ux mem")) o127 rfl (Evs.cons (kY ▸ Ev.sliceK (Ev.cell (v := .ref (x0 + 1)) (by walk_at "ux at")) (prefix_get hp5 hYi') EvP.none EvP.none (Ev.neg Ev.const_int) (by decide) hYz) (Evs.cons (kM ▸ Ev.sliceK (Ev.cell (v := .ref x0) (by walk_at "ux at")) (prefix_get (hp5.trans (List.prefix_append _ _)) hMi') EvP.none EvP.none (Ev.neg Ev.const_int) (by decide) hMz) (Evs.cons (Ev.local (v := .int T) (by walk_at "ux at")) Evs.nil))) c8) (by walk_at "ux put")) ?_
  have hp78 : H7 <+: H8 := ((List.prefix_append _ _).trans (List.prefix_append _ _)).trans hp8
  -- under, over
  have hT18 := prefix_get hp78 hT1
  have hT28 := hT2.pre hp78
  obtain ⟨H9, c9, hp9⟩ := taken_ok (d := d + 3) g hT18 hT28 (by unfold sgM at hs1; (first | lia | omega))
  refine ExP.cons (Es.assign (Ev.callF (Ev.global gta (by walk_at "ux mem")) o134 rfl (Evs.cons (Ev.local (v := .ref nT) (by walk_at "ux at")) Evs.nil) c9) (by walk_at "ux put")) ?_
  obtain ⟨H10, c10, hp10⟩ := taken_ok (d := d + 3) g (prefix_get hp9 hB1) (hB2.pre hp9) (by unfold sgY at hs2; (first | lia | omega))
  refine ExP.cons (Es.assign (Ev.callF (Ev.global gta (by walk_at "ux mem")) o134 rfl (Evs.cons (Ev.local (v := .ref nB) (by walk_at "ux at")) Evs.nil) c10) (by walk_at "ux put")) ?_
  have hpA := hp5.trans (hp78.trans (hp9.trans hp10))
  have hTA1 := prefix_get (hp9.trans hp10) hT18
  have hTA2 := hT28.pre (hp9.trans hp10)
  have hBA1 := prefix_get (hp9.trans hp10) hB1
  have hBA2 := hB2.pre (hp9.trans hp10)
  have hMA := prefix_get hpA hMi'
  have hYA := prefix_get hpA hYi'
  have hDA1 := prefix_get hpA hD1
  have hDA2 := LLs.pre hD2 hpA
  clear hp5 hp78 hp9 hp10 hT18 hT28 c7 c8 c9 c10 hp7 hp8 hT1 hT2 hB1 hB2 hMi' hYi' hD1 hD2
  exact law_ifs g hlaw' rfl hOK hM hY hsz hMA hYA hDA1 hDA2 hTA1 hTA2 hBA1 hBA2
end

section
variable {G : Gd} {cs : Scope} {d : Nat} {m m₁ m₂ m' : Mem} {H H₁ H₂ H₃ H' : Hp} {pos : Pos}

set_option maxRecDepth 100000 in
set_option maxHeartbeats 8000000 in
theorem law_cmp (g : GOK G) {l : Addr} {fd : FuncData} {oc : Value} {od : Option Addr} {sl : Array (Option Value)} (hlaw : (KH G.w.params).lookup 160 = some ⟨oc, od, .func fd, sl⟩) {body : List Stmt} (hb : fd.body = .stmts body) {M Y : List Int} {o : Option PV} {T gap : Int} {x0 sz nD : Nat} {xsD : List PV} {H5 : Hp} (hOK : LawOK M Y) (hM : M.length = 4) (hY : Y.length = 4) (hsz : maxL (M ++ Y) = sz) (hMi' : H5[x0]? = some (M.map PV.int)) (hYi' : H5[x0 + 1]? = some (Y.map PV.int))
    (hD1 : H5[nD]? = some xsD) (hD2 : LLs H5 xsD [(rng 0 1 sz).map (dueF M), (rng 0 1 sz).map (dueF Y)]) :
    ExP G fd.scope (d + 8) [some (.glob (.ref l)), o, some (.ref 1), some (.int T), some (.int gap), some (.ref x0), some (.ref (x0 + 1)), some (.int sz), some (.ref nD), none, none, none, none, none, none, none, none, none, none, none, none, none, none, none, none, none, none, none, none, none, none, none, none, none, none, none, none, none, none] H5 (body.drop 8) (fun f m' H' => f = .ret (.bool true)) := by
  have hlaw' := hlaw
  cases hlaw
  cases hb
  have hsl : sizeLine = 16777216 := by decide +kernel
  have brange : G.mg (Str.ofString "range") = none := mg_none_of g.X G.g rfl
  have gab : G.mg (Str.ofString "_law_above") = some (.ref 155) := mg_of g.X G.g rfl
  have o155 := g.X 155 _ rfl
  have abM := hOK.abM
  have abY := hOK.abY
  have hsmall := hOK.small
  rw [hsz] at abM abY hsmall
  rw [show ((sz : Int)).toNat = sz from Int.toNat_natCast sz] at abM abY
  refine ExP.skipE (P := fun b H' => b = false ∧ H5 <+: H') (TrE.cmp (Q := fun v H' => ∃ n xs, v = .ref n ∧ H5 <+: H' ∧ H'[n]? = some xs ∧ LLs H' xs [(rng 0 1 sz).map (dueF M), (rng 0 1 sz).map (dueF Y)]) (Q' := fun a b H' => b = .ref nD ∧ ∃ n xs, a = .ref n ∧ H5 <+: H' ∧ H'[n]? = some xs ∧ LLs H' xs [(rng 0 1 sz).map (dueF M), (rng 0 1 sz).map (dueF Y)]) (EvE.compL (ScopeOK.of rfl rfl (by decide) (by rfl)) [.ref x0, .ref (x0 + 1)] (ItbS.list (Ev.list (Evs.cons (Ev.cell (v := .ref x0) (by walk_at "ux at")) (Evs.cons (Ev.cell (v := .ref (x0 + 1)) (by walk_at "ux at")) Evs.nil)) (by rw [hsl]; exact (by decide : 2 ≤ 16777216))) (get_last _ _)) [(rng 0 1 sz).map (dueF M), (rng 0 1 sz).map (dueF Y)] rfl (fun o => [none, o, none, some (.int sz)]) (fun o => by walk_at "ux mf") (by walk_at "ux init") (by exact (by decide : 2 ≤ 1000)) (fun t o H => Asg.cell (by walk_at "ux put")) (fun H' hp => prefix_get hp (get_last _ _)) ?elt2 ?p3)
    (fun a H' hq => EvE.ev (Ev.cell (v := .ref nD) (by walk_at "ux at")) ⟨rfl, hq⟩) ?op) ?rest3
  case p3 => intro H' rs q1 q2 q3 q4; exact ⟨_, rs, rfl, (List.prefix_append _ _).trans q1, q3, q4⟩
  case op =>
    rintro a b H' ⟨rfl, n, xs, rfl, q1, q2, q3⟩
    exact ⟨false, op_ne_ll q2 q3 (prefix_get q1 hD1) (LLs.pre hD2 q1), rfl, q1⟩
  case elt2 =>
    intro k t ll H' ht hll hp hlt
    obtain ⟨i, R, rfl, rfl, hR, hRl, habR⟩ : ∃ i R, t = .ref i ∧ ll = (rng 0 1 sz).map (dueF R) ∧ H'[i]? = some (R.map PV.int) ∧ R.length = 4 ∧ ∀ t ∈ rng 0 1 sz, aboveF R t = dueF R t := by
      match k, ht, hll with
      | 0, ht, hll => cases ht; cases hll; exact ⟨_, M, rfl, rfl, prefix_get ((List.prefix_append _ _).trans hp) hMi', hM, abM⟩
      | 1, ht, hll => cases ht; cases hll; exact ⟨_, Y, rfl, rfl, prefix_get ((List.prefix_append _ _).trans hp) hYi', hY, abY⟩
      | n + 2, ht, hll => cases ht
    refine EvE.compI (ScopeOK.of rfl rfl (by decide) (by rfl)) (rng 0 1 sz) (ItbS.range1 (n := sz) brange (by walk_at "ux mem") (Ev.cell (v := .int sz) (by walk_at "ux at")) (by (first | lia | omega))) (dueF R) (fun o => [none, o.map .int, none, some (.ref i)]) (fun o => by walk_at "ux mf") (by walk_at "ux init") (by simp [rng]; (first | lia | omega)) (fun t o H => Asg.name (by walk_at "ux put")) (fun _ _ => trivial) (fun t H'' ht' hp' => ?_) (fun H'' q1 q2 q3 => ⟨q1, _, rfl, by (first | lia | omega), q3⟩)
    have hr := rng_mem ht'
    have hab := above_ok (d := d + 6) (t := t) g (prefix_get hp' hR) (by (first | lia | omega)) (by (first | lia | omega))
    rw [habR t ht'] at hab
    exact EvE.ev (Ev.callF (Ev.global gab (by walk_at "ux mem")) o155 rfl (Evs.cons (Ev.cell (v := .ref i) (by walk_at "ux at")) (Evs.cons (Ev.local (v := .int t) (by walk_at "ux at")) Evs.nil)) hab) ⟨List.prefix_append _ _, rfl⟩
  rintro b H6 ⟨rfl, hp6⟩
  refine ⟨rfl, ?_⟩
  exact law_mid g hlaw' rfl hOK hM hY hsz (prefix_get hp6 hMi') (prefix_get hp6 hYi') (prefix_get hp6 hD1) (LLs.pre hD2 hp6)
end

section
variable {G : Gd} {cs : Scope} {d : Nat} {m m₁ m₂ m' : Mem} {H H₁ H₂ H₃ H' : Hp} {pos : Pos}

set_option maxRecDepth 100000 in
set_option maxHeartbeats 8000000 in
theorem law_due (g : GOK G) {l : Addr} {fd : FuncData} {oc : Value} {od : Option Addr} {sl : Array (Option Value)} (hlaw : (KH G.w.params).lookup 160 = some ⟨oc, od, .func fd, sl⟩) {body : List Stmt} (hb : fd.body = .stmts body) {M Y : List Int} {o : Option PV} {T gap : Int} {x0 sz : Nat} {H4 : Hp} (hOK : LawOK M Y) (hM : M.length = 4) (hY : Y.length = 4) (hsz : maxL (M ++ Y) = sz) (hMi' : H4[x0]? = some (M.map PV.int)) (hYi' : H4[x0 + 1]? = some (Y.map PV.int)) :
    ExP G fd.scope (d + 8) [some (.glob (.ref l)), o, some (.ref 1), some (.int T), some (.int gap), some (.ref x0), some (.ref (x0 + 1)), some (.int sz), none, none, none, none, none, none, none, none, none, none, none, none, none, none, none, none, none, none, none, none, none, none, none, none, none, none, none, none, none, none, none] H4 (body.drop 7) (fun f m' H' => f = .ret (.bool true)) := by
  have hlaw' := hlaw
  cases hlaw
  cases hb
  have hsl : sizeLine = 16777216 := by decide +kernel
  have bsum : G.mg (Str.ofString "sum") = none := mg_none_of g.X G.g rfl
  have brange : G.mg (Str.ofString "range") = none := mg_none_of g.X G.g rfl
  have bmax : G.mg (Str.ofString "max") = none := mg_none_of g.X G.g rfl
  have gab : G.mg (Str.ofString "_law_above") = some (.ref 155) := mg_of g.X G.g rfl
  have o155 := g.X 155 _ rfl
  have abM := hOK.abM
  have abY := hOK.abY
  have hsmall := hOK.small
  rw [hsz] at abM abY hsmall
  rw [show ((sz : Int)).toNat = sz from Int.toNat_natCast sz] at abM abY
  -- due
  refine ExP.assignCE (P := fun v H' => ∃ n xs, v = .ref n ∧ H4 <+: H' ∧ H'[n]? = some xs ∧ LLs H' xs [(rng 0 1 sz).map (dueF M), (rng 0 1 sz).map (dueF Y)]) (EvE.compL (ScopeOK.of rfl rfl (by decide) (by rfl)) [.ref x0, .ref (x0 + 1)] (ItbS.list (Ev.list (Evs.cons (Ev.cell (v := .ref x0) (by walk_at "ux at")) (Evs.cons (Ev.cell (v := .ref (x0 + 1)) (by walk_at "ux at")) Evs.nil)) (by rw [hsl]; exact (by decide : 2 ≤ 16777216))) (get_last _ _)) [(rng 0 1 sz).map (dueF M), (rng 0 1 sz).map (dueF Y)] rfl (fun o => [none, o, none, some (.int sz)]) (fun o => by walk_at "ux mf") (by walk_at "ux init") (by exact (by decide : 2 ≤ 1000)) (fun t o H => Asg.cell (by walk_at "ux put")) (fun H' hp => prefix_get hp (get_last _ _)) ?elt2 ?p3) ?rest3 (fun env he hk => swaps_cell hk)
  case p3 => intro H' rs q1 q2 q3 q4; exact ⟨_, rs, rfl, (List.prefix_append _ _).trans q1, q3, q4⟩
  case elt2 =>
    intro k t ll H' ht hll hp hlt
    obtain ⟨i, R, rfl, rfl, hR, hRl⟩ : ∃ i R, t = .ref i ∧ ll = (rng 0 1 sz).map (dueF R) ∧ H'[i]? = some (R.map PV.int) ∧ R.length = 4 := by
      match k, ht, hll with
      | 0, ht, hll => cases ht; cases hll; exact ⟨_, M, rfl, rfl, prefix_get ((List.prefix_append _ _).trans hp) hMi', hM⟩
      | 1, ht, hll => cases ht; cases hll; exact ⟨_, Y, rfl, rfl, prefix_get ((List.prefix_append _ _).trans hp) hYi', hY⟩
      | n + 2, ht, hll => cases ht
    refine EvE.compI (ScopeOK.of rfl rfl (by decide) (by rfl)) (rng 0 1 sz) (ItbS.range1 (n := sz) brange (by walk_at "ux mem") (Ev.cell (v := .int sz) (by walk_at "ux at")) (by (first | lia | omega))) (dueF R) (fun o => [none, o.map .int, none, some (.ref i)]) (fun o => by walk_at "ux mf") (by walk_at "ux init") (by simp [rng]; (first | lia | omega)) (fun t o H => Asg.cell (by walk_at "ux put")) (fun _ _ => trivial) (fun t H'' ht' hp' => ?_) (fun H'' q1 q2 q3 => ⟨q1, _, rfl, by (first | lia | omega), q3⟩)
    refine EvE.callB1 (Q := fun v H5 => ∃ n, v = .ref n ∧ H'' <+: H5 ∧ H5[n]? = some ((R.map fun x => max 0 (x - t)).map PV.int)) (Ev.builtin bsum PyProof.Rows.boot_sum (by walk_at "ux mem")) (EvE.compI (ScopeOK.of rfl rfl (by decide) (by rfl)) R (ItbS.listI (Ev.cell (v := .ref i) (by walk_at "ux at")) (prefix_get hp' hR)) (fun x => max 0 (x - t)) (fun o => [none, o.map .int, none, some (.int t)]) (fun o => by walk_at "ux mf") (by walk_at "ux init") (by (first | lia | omega)) (fun t o H => Asg.name (by walk_at "ux put")) (fun H5 hp5 => prefix_get hp5 (prefix_get hp' hR)) (fun x H5 _ _ => EvE.ev (Ev.callB (Ev.builtin bmax PyProof.Rows.boot_max (by walk_at "ux mem")) (Evs.cons Ev.const_int (Evs.cons (Ev.bin (Ev.local (v := .int x) (by walk_at "ux at")) (Ev.cell (v := .int t) (by walk_at "ux at")) op_sub) Evs.nil)) cl_max2) ⟨List.prefix_refl _, rfl⟩) (fun H5 q1 q2 q3 => ⟨_, rfl, q1, q3⟩)) (fun v H5 ⟨n, hv, q1, q2⟩ => by subst hv; exact ⟨_, _, cl_sum q2, q1, rfl⟩)
  rintro v H5 ⟨nD, xsD, rfl, hp5, hD1, hD2⟩
  refine ⟨_, by walk_at "ux put", ?_⟩
  exact law_cmp g hlaw' rfl hOK hM hY hsz (prefix_get hp5 hMi') (prefix_get hp5 hYi') hD1 hD2

end

section
variable {G : Gd} {cs : Scope} {d : Nat} {m m₁ m₂ m' : Mem} {H H₁ H₂ H₃ H' : Hp} {pos : Pos}

set_option maxRecDepth 100000 in
set_option maxHeartbeats 8000000 in
theorem law_ok (g : GOK G) {l : Addr} {vs : List Value} {ns : List Int} (hl : G.h₀.IsList l vs.toArray) (hI : IntsAre vs ns) (hz : ns.length ≤ 63) {fd : FuncData} {oc : Value} {od : Option Addr} {sl : Array (Option Value)} (hlaw : (KH G.w.params).lookup 160 = some ⟨oc, od, .func fd, sl⟩) (hOK : LawOK (rowM (cellL ns) (gapF (cellL ns)) 4) (rowY (cellL ns) (gapF (cellL ns)) 4)) :
    ∃ body, fd.body = .stmts body ∧ ExP G fd.scope (d + 8) (some (.glob (.ref l)) :: List.replicate 38 none) [] body (fun f m' H' => f = .ret (.bool true)) := by
  have hlaw' := hlaw
  cases hlaw
  refine ⟨_, rfl, ?_⟩
  have hsl : sizeLine = 16777216 := by decide +kernel
  have bsum : G.mg (Str.ofString "sum") = none := mg_none_of g.X G.g rfl
  have benum : G.mg (Str.ofString "enumerate") = none := mg_none_of g.X G.g rfl
  have brange : G.mg (Str.ofString "range") = none := mg_none_of g.X G.g rfl
  have bmax : G.mg (Str.ofString "max") = none := mg_none_of g.X G.g rfl
  have gil : G.mg (Str.ofString "insort_left") = some (.ref 62) := mg_of g.X G.g rfl
  have gir : G.mg (Str.ofString "insort_right") = some (.ref 44) := mg_of g.X G.g rfl
  have o62 := g.X 62 _ rfl
  have o44 := g.X 44 _ rfl
  have hzs : ns.length ≤ sizeLine := by rw [hsl]; (first | lia | omega)
  -- cells
  refine ExP.comp1 (ScopeOK.of rfl rfl (by decide) (by rfl)) (ItbS.enumList (n := 0) (xs := base8.map PV.int) benum (by walk_at "ux mem") (Ev.list (Evs.cons Ev.const_int (Evs.cons Ev.const_int (Evs.cons Ev.const_int (Evs.cons Ev.const_int (Evs.cons Ev.const_int (Evs.cons Ev.const_int (Evs.cons Ev.const_int (Evs.cons Ev.const_int Evs.nil)))))))) (by rw [hsl]; exact (by decide : 8 ≤ 16777216))) rfl)
    (base8.mapIdx fun i x => ((i : Int), x)) (fun o => [none, o.map fun t => .int t.1, o.map fun t => .int t.2, none, some (.glob (.ref l))]) (fun o => by walk_at "ux mf") (by walk_at "ux init") (fun k r _ => ∃ i, (cellL ns)[k]? = some i ∧ r = .int i) (by simp) (by decide) ?asg ?ok ?mono ?elt ?sw (by walk_at "ux put") ?rest
  case asg =>
    intro k P t o H h1 h2
    obtain ⟨rfl, _, _⟩ := base8_get (ns := ns) h1 h2
    exact Asg.pair (m₁ := [none, some (.int t.1), o.map fun t => .int t.2, none, some (.glob (.ref l))]) (by walk_at "ux put") (by walk_at "ux put")
  case ok => intro H' hp; exact prefix_get hp rfl
  case mono => intro k r H H' _ h; exact h
  case elt =>
    intro k t H' ht hp hlt
    refine EvE.ev (v := .int (t.2 + (pickL ns (some t.1) none (some 8)).sum)) (Ev.bin (Ev.local (v := .int t.2) (by walk_at "ux at")) (Ev.callB (Ev.builtin bsum PyProof.Rows.boot_sum (by walk_at "ux mem")) (Evs.cons (Ev.sliceBase hl hI (Ev.cell (v := .glob (.ref l)) (by walk_at "ux at")) (EvP.some (Ev.local (v := .int t.1) (by walk_at "ux at"))) EvP.none Ev.const_int (by decide) hzs) Evs.nil) (cl_sum (get_last _ _))) op_add) ⟨List.prefix_append _ _, _, base8_cell ht, rfl⟩
  case sw =>
    intro env he hk
    exact swaps_list he hk rfl
  case rest =>
    intro H1 rs h1 h2 h3 h4 h5
    have hrs := rs_ints (L := cellL ns) (by rw [h4]; simp [cellL, base8]) h5
    rw [hrs] at h3
    generalize hC : cellL ns = C at h3 hOK
    have hCl : C.length = 8 := by rw [← hC]; rfl
    replace h3 : H1[1]? = some (C.map PV.int) := h3
    clear hrs h5 h4 h2 h1
    -- total
    refine ExP.cons (Es.assign (v := .int C.sum) (Ev.callB (Ev.builtin bsum PyProof.Rows.boot_sum (by walk_at "ux mem")) (Evs.cons (Ev.local (v := .ref 1) (by walk_at "ux at")) Evs.nil) (cl_sum h3)) (by walk_at "ux put")) ?_
    -- gap
    have hps : (C.map PV.int).length ≤ sizeLine := by rw [List.length_map, hCl, hsl]; decide
    refine ExP.assignE (P := fun v H' => H1 <+: H' ∧ v = .int ((mod4 (pickL C none (some 4) none)).sum - (mod4 (pickL C (some 4) none none)).sum)) (EvE.bin (Q := fun a H' => H1 <+: H' ∧ a = .int (mod4 (pickL C none (some 4) none)).sum) (Q' := fun a b H' => H1 <+: H' ∧ a = .int (mod4 (pickL C none (some 4) none)).sum ∧ b = .int (mod4 (pickL C (some 4) none none)).sum)
      (EvE.callB1 (Q := fun v H' => ∃ n, v = .ref n ∧ H1 <+: H' ∧ H'[n]? = some ((mod4 (pickL C none (some 4) none)).map PV.int)) (Ev.builtin bsum PyProof.Rows.boot_sum (by walk_at "ux mem")) (EvE.compI (ScopeOK.of rfl rfl (by decide) (by rfl)) (pickL C none (some 4) none) (ItbS.listI (Ev.slice (Ev.local (v := .ref 1) (by walk_at "ux at")) h3 EvP.none (EvP.some Ev.const_int) hps) (by rw [pickL_map]; exact get_last _ _)) (fun x => x.fmod 4) (fun o => [none, o.map .int]) (fun o => by walk_at "ux mf") (by walk_at "ux init") ?z1 (fun t o H => Asg.name (by walk_at "ux put")) (fun H' hp => prefix_get hp (by rw [pickL_map]; exact get_last _ _)) (fun t H' _ _ => EvE.ev (Ev.bin (Ev.local (v := .int t) (by walk_at "ux at")) Ev.const_int (op_mod (by decide))) ⟨List.prefix_refl _, rfl⟩) ?p1) ?c1)
      (fun a H' hq => EvE.callB1 (Q := fun v H' => ∃ n, v = .ref n ∧ H1 <+: H' ∧ a = .int (mod4 (pickL C none (some 4) none)).sum ∧ H'[n]? = some ((mod4 (pickL C (some 4) none none)).map PV.int)) (Ev.builtin bsum PyProof.Rows.boot_sum (by walk_at "ux mem")) (EvE.compI (ScopeOK.of rfl rfl (by decide) (by rfl)) (pickL C (some 4) none none) (ItbS.listI (Ev.slice (Ev.local (v := .ref 1) (by walk_at "ux at")) (prefix_get hq.1 h3) (EvP.some Ev.const_int) EvP.none hps) (by rw [pickL_map]; exact get_last _ _)) (fun x => x.fmod 4) (fun o => [none, o.map .int]) (fun o => by walk_at "ux mf") (by walk_at "ux init") ?z2 (fun t o H => Asg.name (by walk_at "ux put")) (fun H' hp => prefix_get hp (by rw [pickL_map]; exact get_last _ _)) (fun t H' _ _ => EvE.ev (Ev.bin (Ev.local (v := .int t) (by walk_at "ux at")) Ev.const_int (op_mod (by decide))) ⟨List.prefix_refl _, rfl⟩) ?p2) ?c2)
      ?o1) ?rest2
    case z1 => have := pickL_le C none (some 4) none; (first | lia | omega)
    case z2 => have := pickL_le C (some 4) none none; (first | lia | omega)
    case p1 => intro H' k1 k2 k3; exact ⟨_, rfl, (List.prefix_append _ _).trans k1, k3⟩
    case p2 => intro H'' k1 k2 k3; exact ⟨_, rfl, (hq.1.trans (List.prefix_append _ _)).trans k1, hq.2, k3⟩
    case c1 => rintro v H' ⟨n, rfl, k1, k2⟩; exact ⟨_, _, cl_sum k2, k1, rfl⟩
    case c2 => rintro v H'' ⟨n, rfl, k1, k2, k3⟩; exact ⟨_, _, cl_sum k3, k1, k2, rfl⟩
    case o1 => rintro a b H' ⟨k1, rfl, rfl⟩; exact ⟨_, op_sub, k1, rfl⟩
    rintro v H2 ⟨hp2, rfl⟩
    unfold gapF at hOK
    generalize hgap : (mod4 (pickL C none (some 4) none)).sum - (mod4 (pickL C (some 4) none none)).sum = gap at hOK ⊢
    refine ⟨_, by walk_at "ux put", ?_⟩
    have hC2 := prefix_get hp2 h3
    -- mine, yours
    refine ExP.cons (Es.assignC (v := .ref H2.length) (Ev.list Evs.nil (by simp)) (by walk_at "ux put") (fun env he hk => rfl)) ?_
    refine ExP.cons (Es.assignC (v := .ref (H2.length + 1)) ((Ev.list Evs.nil (by simp)).of (by simp)) (by walk_at "ux put") (fun env he hk => rfl)) ?_
    refine ExP.for (Itb.range1 (n := 4) brange (by walk_at "ux mem") Ev.const_int (by decide))
      (fun k m H' => H' = H2 ++ [(rowM C gap k).map PV.int, (rowY C gap k).map PV.int] ∧ ∃ o, m = [some (.glob (.ref l)), o, some (.ref 1), some (.int C.sum), some (.int gap), some (.ref H2.length), some (.ref (H2.length + 1)), none, none, none, none, none, none, none, none, none, none, none, none, none, none, none, none, none, none, none, none, none, none, none, none, none, none, none, none, none, none, none, none])
      ⟨by simp [rowM, rowY], none, rfl⟩ (fun _ _ _ _ => trivial) (fun k P m H' hget hIv => ?_) (fun m' H' hIv => ?_)
    · obtain ⟨rfl, o, rfl⟩ := hIv
      rw [List.getElem?_map] at hget
      obtain ⟨kk, hk', rfl⟩ := Option.map_eq_some_iff.mp hget
      unfold rng at hk'
      rw [List.getElem?_map] at hk'
      obtain ⟨k2, hk2, rfl⟩ := Option.map_eq_some_iff.mp hk'
      have hkk : k2 = k ∧ k < 4 := by
        obtain ⟨q1, q2⟩ := List.getElem?_eq_some_iff.mp hk2
        simp at q1 q2
        (first | lia | omega)
      obtain ⟨rfl, hk4⟩ := hkk
      have ek : (0 : Int) + (k2 : Int) * 1 = k2 := by (first | lia | omega)
      rw [ek]
      refine ⟨_, Asg.name (by walk_at "ux put"), ?_⟩
      have hC3 : ∀ x y, (H2 ++ [x, y])[1]? = some (C.map PV.int) := fun x y => prefix_get (List.prefix_append _ _) hC2
      have gC1 : (C.map PV.int)[((k2 : Int)).toNat]? = some (.int (C.getD k2 0)) := by
        have hlt : k2 < C.length := by (first | lia | omega)
        rw [List.getElem?_map, Int.toNat_natCast, List.getElem?_eq_getElem hlt, List.getD_eq_getElem?_getD, List.getElem?_eq_getElem hlt]; rfl
      have gC2 : (C.map PV.int)[((4 : Int) + (k2 : Int)).toNat]? = some (.int (C.getD (4 + k2) 0)) := by
        have hlt : 4 + k2 < C.length := by (first | lia | omega)
        have e4 : ((4 : Int) + (k2 : Int)).toNat = 4 + k2 := by (first | lia | omega)
        rw [List.getElem?_map, e4, List.getElem?_eq_getElem hlt, List.getD_eq_getElem?_getD, List.getElem?_eq_getElem hlt]; rfl
      have i1 := insL_ok (d := d + 6) (x := liftM C gap k2) g (get2_0 H2 ((rowM C gap k2).map PV.int) ((rowY C gap k2).map PV.int)) (by rw [rowM_len]; (first | lia | omega))
      rw [set2_0, ← rowM_succ] at i1
      have i2 := insR_ok (d := d + 6) (x := liftY C gap k2) g (get2_1 H2 ((rowM C gap (k2 + 1)).map PV.int) ((rowY C gap k2).map PV.int)) (by rw [rowY_len]; (first | lia | omega))
      rw [set2_1, ← rowY_succ] at i2
      refine ExP.skip ((Tr.cmp (Ev.callF (Ev.global gil (by walk_at "ux mem")) o62 rfl (Evs.cons (Ev.cell (v := .ref H2.length) (by walk_at "ux at")) (Evs.cons (Ev.bin (Ev.bin (Ev.item (v := .int (C.getD k2 0)) (Ev.local (v := .ref 1) (by walk_at "ux at")) (Ev.local (v := .int k2) (by walk_at "ux at")) (hC3 _ _) (by (first | lia | omega)) (by (first | lia | omega)) gC1) Ev.const_int (op_mod (by decide)))
        (Ev.callB (Ev.builtin bmax PyProof.Rows.boot_max (by walk_at "ux mem")) (Evs.cons Ev.const_int (Evs.cons (Ev.bin (Ev.bin (Ev.bin Ev.const_int (Ev.local (v := .int k2) (by walk_at "ux at")) op_sub) (Ev.local (v := .int gap) (by walk_at "ux at")) op_sub) Ev.const_int (op_floordiv (by decide) (by decide))) Evs.nil)) cl_max2) op_add) Evs.nil)) i1) Ev.const_none (op_isnot_none (.inl rfl))).of rfl) ?_
      refine ExP.skip ((Tr.cmp (Ev.callF (Ev.global gir (by walk_at "ux mem")) o44 rfl (Evs.cons (Ev.cell (v := .ref (H2.length + 1)) (by walk_at "ux at")) (Evs.cons (Ev.bin (Ev.bin (Ev.item (v := .int (C.getD (4 + k2) 0)) (Ev.local (v := .ref 1) (by walk_at "ux at")) (Ev.bin Ev.const_int (Ev.local (v := .int k2) (by walk_at "ux at")) op_add) (hC3 _ _) (by (first | lia | omega)) (by (first | lia | omega)) gC2) Ev.const_int (op_mod (by decide)))
        (Ev.callB (Ev.builtin bmax PyProof.Rows.boot_max (by walk_at "ux mem")) (Evs.cons Ev.const_int (Evs.cons (Ev.bin (Ev.bin (Ev.bin Ev.const_int (Ev.local (v := .int k2) (by walk_at "ux at")) op_sub) (Ev.local (v := .int gap) (by walk_at "ux at")) op_add) Ev.const_int (op_floordiv (by decide) (by decide))) Evs.nil)) cl_max2) op_add) Evs.nil)) i2) Ev.const_none (op_isnot_none (.inl rfl))).of rfl) ?_
      exact ExP.nil ⟨rfl, rfl, some (.int k2), rfl⟩
    · obtain ⟨rfl, o, rfl⟩ := hIv
      have e4 : ((rng 0 1 4).map fun i => ItP.of (.int i)).length = 4 := by simp [rng]
      rw [e4]
      have hM := rowM_len C gap 4
      have hY := rowY_len C gap 4
      generalize rowM C gap 4 = M at hM hOK ⊢
      generalize rowY C gap 4 = Y at hY hOK ⊢
      have hMi := get2_0 H2 (M.map PV.int) (Y.map PV.int)
      have hYi := get2_1 H2 (M.map PV.int) (Y.map PV.int)
      generalize hx : H2.length = x0 at hMi hYi ⊢
      generalize H2 ++ [M.map PV.int, Y.map PV.int] = H3 at hMi hYi ⊢
      -- size
      refine ExP.cons (Es.assignC (v := .int (maxL (M ++ Y))) (Ev.callB (Ev.builtin bmax PyProof.Rows.boot_max (by walk_at "ux mem")) (Evs.cons (Ev.binR (Ev.cell (v := .ref x0) (by walk_at "ux at")) (Ev.cell (v := .ref (x0 + 1)) (by walk_at "ux at")) (op_cat_list hMi hYi (by rw [List.length_map, List.length_map, hsl]; (first | lia | omega)))) Evs.nil) (cl_maxL (ns := M ++ Y) (by rw [List.map_append]; exact get_last _ _) (by rw [List.length_append]; (first | lia | omega)))) (by walk_at "ux put") (fun env he hk => rfl)) ?_
      obtain ⟨sz, hsz⟩ := Int.eq_ofNat_of_zero_le hOK.nn
      rw [hsz]
      have hMi' := prefix_get (List.prefix_append H3 [M.map PV.int ++ Y.map PV.int]) hMi
      have hYi' := prefix_get (List.prefix_append H3 [M.map PV.int ++ Y.map PV.int]) hYi
      clear hMi hYi
      generalize H3 ++ [M.map PV.int ++ Y.map PV.int] = H4 at hMi' hYi' ⊢
      exact law_due g hlaw' rfl hOK hM hY hsz hMi' hYi'
end

theorem bindC_cell {kindOf : Str → Option NameKind} {n : Str} {v : Value} (h : kindOf n = some .cell) : bindC kindOf [(n, v)] (fun _ => none) n = some v := by
  show (if kindOf n = some .local then (fun _ => none) else fun y => if y = n then some v else none : Str → Option Value) n = some v
  rw [h, if_neg (by decide)]; exact if_pos rfl

theorem lookup_of_memS {x : Str} {c : Addr} : ∀ {l : List (Str × Addr)}, (x, c) ∈ l → ∃ c', l.lookup x = some c'
  | (y, e) :: r, h => by
    rw [List.lookup_cons]
    by_cases hy : (x == y) = true
    · rw [hy]; exact ⟨e, rfl⟩
    · rw [Bool.not_eq_true] at hy
      rw [hy]
      rcases List.mem_cons.mp h with q | q
      · cases q; simp at hy
      · exact lookup_of_memS q
theorem lookup_uniq {l : List (Str × Addr)} (h : (l.map (·.1)).Nodup) {x : Str} {c : Addr} (hm : (x, c) ∈ l) : l.lookup x = some c := lookup_of_mem' h hm

set_option maxRecDepth 100000 in
set_option maxHeartbeats 8000000 in
theorem law_code {prog : Program} {w : World} {s₁ : Shared} {mg mb : Str → Option Value} (KX : (KH w.params).In s₁.heap) (gn : s₁.heap.Ns mainGlobals mg) (bn : s₁.heap.Ns builtinsNs mb) (lim : s₁.heap.NoLimit) (bi : ∀ x : Str, x ≠ "__name__" → mb x = bootBuiltins x) (hg : s₁.gens = #[])
    {l : Addr} {vs : List Value} {ns : List Int} (hl : s₁.heap.IsList l vs.toArray) (hI : IntsAre vs ns) (hz : ns.length ≤ 63) (hOK : LawOK (rowM (cellL ns) (gapF (cellL ns)) 4) (rowY (cellL ns) (gapF (cellL ns)) 4)) {R : Result → Shared → Prop}
    (hR : ∀ s', (∀ b o, s₁.heap.get? b = some o → s'.heap.get? b = some o) → s'.os = s₁.os → (∀ x ∈ s'.gens, x.bare = true) → R (.ok (.ret (.bool true))) s')
    {fd : FuncData} {oc : Value} {od : Option Addr} {sl : Array (Option Value)} (hlaw : (KH w.params).lookup 160 = some ⟨oc, od, .func fd, sl⟩) :
    codeAny (model prog w) callerA (.call (.ref 160) ⟨[.ref l], []⟩) R s₁ := by
  let G : Gd := ⟨prog, w, s₁.heap, KH w.params, mg, mb, KX, gn, bn, lim, bi⟩
  have g : GOK G := ⟨rfl⟩
  obtain ⟨body, hb, f, m', H', hx, rfl⟩ := law_ok (G := G) (d := 0) g hl hI hz hlaw hOK
  have ho := KX _ _ hlaw
  obtain ⟨f1, f2, f3, f4, f5, f6, f7, f8, f9, f10, f11, f12⟩ : codeIn (KH w.params) fd.code fd.qualname = true ∧ bindArgs fd ⟨[.ref l], []⟩ = pure [(Str.ofString "script", .ref l)] ∧ fd.closure = [] ∧ fd.scope.isCoroutine = false ∧ fd.scope.isGenerator = false ∧ fd.scope.kind = .function ∧
      fd.scope.names[0]? = some (Str.ofString "script", .cell) ∧ (fd.scope.names.map (·.1)).Nodup ∧ (∀ x ∈ fd.scope.names, x.2 ≠ .free) ∧ ((cellsFrom 0 fd.scope.names []).map (·.1)).Nodup ∧ fd.globals = mainGlobals ∧ fd.builtins = builtinsNs := by
    cases hlaw
    exact ⟨rfl, rfl, rfl, rfl, rfl, rfl, rfl, by decide, by decide, by decide, rfl, rfl⟩
  have hcd := codeRec_of KX f1
  clear f1 hlaw
  have hmem : (Str.ofString "script", NameKind.cell) ∈ fd.scope.names := List.mem_of_getElem? f7
  have hlk : fd.scope.names.lookup (Str.ofString "script") = some .cell := lookup_of_mem' f8 hmem
  have hcl : ∀ n, ((cellsFrom n fd.scope.names []).lookup (Str.ofString "script")).isSome = true := fun n => cellsFrom_some _ _ _ (.inl hlk)
  refine codeAny_call_cells (binds := [(Str.ofString "script", .ref l)]) (by decide) ho rfl lim hcd hb f2 f3 (fun x hx => ?_) (fun s' x => ?_) f4 f5 f6
  · cases hx with
    | head => exact .inr ⟨hlk, hcl _⟩
    | tail _ h => cases h
  · have hkind : (callEnvC fd s₁.heap.objs.size 160).kindOf (Str.ofString "script") = some .cell := hlk
    have hcnd : ((callEnvC fd s₁.heap.objs.size 160).cells.map (·.1)).Nodup := by
      have : (callEnvC fd s₁.heap.objs.size 160).cells.map (·.1) = (cellsFrom 0 fd.scope.names []).map (·.1) := cellsFrom_names _ _ _ _ _ rfl
      rw [this]; exact f10
    have hLn : s₁.heap.get? s₁.heap.objs.size = none := get?_size_none _
    have hE : EnvOK fd.scope (callEnvC fd s₁.heap.objs.size 160) := ⟨rfl, f6, f11, f12, f4, f8, fun a b c h1 h2 => name_of_addr x.apart h1 h2, fun a k h1 h2 => by
      rcases h2 with rfl | rfl
      · have := cellsFrom_some (x := a) fd.scope.names (s₁.heap.objs.size + 1) [] (.inl (lookup_of_mem' f8 h1))
        exact Option.isSome_iff_exists.mp this
      · exact absurd rfl (f9 _ h1)⟩
    have hA : AOk (0 + 8) (callerA.deeper (callEnvC fd s₁.heap.objs.size 160)) := ⟨rfl, by show 1 + claimMargin + 1 + 8 < 1000; decide, by show 4 + 3 + 8 * 8 + 90 < 9900; decide⟩
    obtain ⟨h₁, tk, rfl⟩ := x.toInCall.same
    have RR : Rel G (callEnvC fd s₁.heap.objs.size 160) [] (some (.glob (.ref l)) :: List.replicate 38 none) [] { s₁ with heap := h₁, toks := tk } :=
      { keep := x.toInCall.keep, len := rfl, objs := fun i xs e => by simp at e, nodup := List.nodup_nil, fresh := fun a h => absurd h List.not_mem_nil, bare := fun y hy => by
          have : y ∈ s₁.gens := hy
          rw [hg] at this; simp at this
        above := hLn
        ns := ⟨_, x.toInCall.ns, fun i y v hi hm => by
          cases i with
          | zero => have hi := f7.symm.trans hi; cases hi
          | succ i => rw [List.getElem?_cons_succ, List.getElem?_replicate] at hm; split at hm <;> cases hm⟩
        cel := fun i y k v hi hk hm => by
          cases i with
          | zero =>
            have hi := f7.symm.trans hi; cases hi
            cases hm
            obtain ⟨c, hc⟩ := Option.isSome_iff_exists.mp (hcl (s₁.heap.objs.size + 1))
            refine ⟨c, .ref l, hc, ?_, .glob _⟩
            have := x.cell _ c hc
            rwa [bindC_cell hkind] at this
          | succ i => rw [List.getElem?_cons_succ, List.getElem?_replicate] at hm; split at hm <;> cases hm
        cok := fun y c hc => by
          have hab := x.above y c hc
          refine ⟨?_, Nat.ne_of_gt hab, List.not_mem_nil, _, x.cell y c (lookup_uniq hcnd hc)⟩
          cases q : G.h₀.get? c with
          | none => rfl
          | some o => exact absurd (Heap.lt_size q) (Nat.not_lt.mpr (Nat.le_of_lt hab))
        off := List.not_mem_nil }
    refine hx _ _ _ _ _ _ hE hA RR fun ρ' s'' cf S R' hcf => ?_
    cases hcf with
    | ret hv =>
      cases hv
      exact hR s'' R'.keep S.os R'.bare

noncomputable def up (M : List Nat) : List Int := M.map fun (x : Nat) => (x : Int)
noncomputable def insN (M : List Nat) (i x : Nat) : List Nat := M.take i ++ x :: M.drop i
noncomputable def bisRN (a : List Nat) (x : Nat) : Nat := bisP (fun i => decide (x < a.getD i 0)) (a.length + 1) 0 a.length
noncomputable def bisLN (a : List Nat) (x : Nat) : Nat := bisP (fun i => !decide (a.getD i 0 < x)) (a.length + 1) 0 a.length
noncomputable def upL (v : List Nat) (n : Nat) : List Nat := (List.range n).foldl (fun M k => insN M (bisLN M (v.getD k 0)) (v.getD k 0)) []
noncomputable def upR (v : List Nat) (n : Nat) : List Nat := (List.range n).foldl (fun M k => insN M (bisRN M (v.getD k 0)) (v.getD k 0)) []
theorem upL_succ (v : List Nat) (n : Nat) : upL v (n + 1) = insN (upL v n) (bisLN (upL v n) (v.getD n 0)) (v.getD n 0) := by
  unfold upL; rw [List.range_succ, List.foldl_append]; rfl
theorem upR_succ (v : List Nat) (n : Nat) : upR v (n + 1) = insN (upR v n) (bisRN (upR v n) (v.getD n 0)) (v.getD n 0) := by
  unfold upR; rw [List.range_succ, List.foldl_append]; rfl
theorem up_getD (M : List Nat) (i : Nat) : (up M).getD i 0 = ((M.getD i 0 : Nat) : Int) := by
  unfold up
  rw [List.getD_eq_getElem?_getD, List.getD_eq_getElem?_getD, List.getElem?_map]
  cases M[i]? <;> rfl
theorem bisL_up (M : List Nat) (x : Nat) : bisL (up M) (x : Int) = bisLN M x := by
  unfold bisL bisLN
  have e : (fun i => !decide ((up M).getD i 0 < (x : Int))) = fun i => !decide (M.getD i 0 < x) := by
    funext i
    rw [up_getD]
    congr 1
    exact decide_eq_decide.mpr Int.ofNat_lt
  rw [e]
  simp [up]
theorem bisR_up (M : List Nat) (x : Nat) : bisR (up M) (x : Int) = bisRN M x := by
  unfold bisR bisRN
  have e : (fun i => decide ((x : Int) < (up M).getD i 0)) = fun i => decide (x < M.getD i 0) := by
    funext i
    rw [up_getD]
    exact decide_eq_decide.mpr Int.ofNat_lt
  rw [e]
  simp [up]
theorem insAt_up (M : List Nat) (i x : Nat) : insAt (up M) i (x : Int) = up (insN M i x) := by
  unfold insAt up insN
  rw [List.map_append, List.map_cons, List.map_take, List.map_drop]
theorem rowM_up {C : List Int} {gap : Int} {v : List Nat} (h : ∀ k < 4, liftM C gap k = ((v.getD k 0 : Nat) : Int)) : ∀ n ≤ 4, rowM C gap n = up (upL v n)
  | 0, _ => rfl
  | n + 1, hn => by rw [rowM_succ, rowM_up h n (by (first | lia | omega)), h n (by (first | lia | omega)), bisL_up, insAt_up, upL_succ]
theorem rowY_up {C : List Int} {gap : Int} {v : List Nat} (h : ∀ k < 4, liftY C gap k = ((v.getD k 0 : Nat) : Int)) : ∀ n ≤ 4, rowY C gap n = up (upR v n)
  | 0, _ => rfl
  | n + 1, hn => by rw [rowY_succ, rowY_up h n (by (first | lia | omega)), h n (by (first | lia | omega)), bisR_up, insAt_up, upR_succ]

noncomputable def nearN (n : Nat) (L R : List Int) : Bool := (List.range n).all fun (k : Nat) => decide ((L.getD k 0 - R.getD k 0).natAbs ≤ 100)
/-- what LawOK says of one row -/
noncomputable def rowB (M : List Int) : Bool := (List.range 7).all (fun (t : Nat) => decide (aboveF M (t : Int) = dueF M (t : Int))) && decide ((revF M).length = 4) && decide ((revF (revF M)).length = 4)
/-- what LawOK says of two rows -/
noncomputable def lawB (M Y : List Int) : Bool :=
  let sz := (maxL (M ++ Y)).toNat
  decide (0 ≤ maxL (M ++ Y)) && decide (maxL (M ++ Y) ≤ 7) &&
  decide ((sgM M Y).length ≤ 30) && decide ((sgY M Y).length ≤ 30) && nearN 4 (revF M) (revF Y) &&
  (balS (sgM M Y) == decide (moreF M Y = [])) && (balS (sgY M Y) == decide (moreG M Y = [])) &&
  (balS (signs (othF M Y) (colF M Y)) == balS (sgM M Y)) && (balS (signs (colF M Y) (othF M Y)) == balS (sgY M Y)) &&
  decide ((signs (othF M Y) (colF M Y)).length ≤ 100) && decide ((signs (colF M Y) (othF M Y)).length ≤ 100) && nearN sz (othF M Y) (colF M Y) &&
  (!balS (sgM M Y) || giftsOK (revF M) (revF Y) (giftsUp (sgM M Y) (sgM M Y).length) (revF Y, revF (revF Y))) &&
  (balS (sgM M Y) || !balS (sgY M Y) || giftsOK (revF Y) (revF M) (giftsUp (sgY M Y) (sgY M Y).length) (revF M, revF (revF M))) &&
  (balS (sgM M Y ++ sgY M Y ++ sgM M Y) == decide (M = Y))

theorem nearN_all {n : Nat} {L R : List Int} (h : nearN n L R = true) (hL : L.length = n) (hR : R.length = n) (k : Nat) : (L.getD k 0 - R.getD k 0).natAbs ≤ 100 := by
  by_cases hk : k < n
  · unfold nearN at h
    exact of_decide_eq_true (List.all_eq_true.mp h k (List.mem_range.mpr hk))
  · rw [List.getD_eq_getElem?_getD, List.getD_eq_getElem?_getD, List.getElem?_eq_none (by (first | lia | omega)), List.getElem?_eq_none (by (first | lia | omega))]
    decide
theorem all_dec {α : Type} {l : List α} {f : α → Prop} [DecidablePred f] (h : l.all (fun x => decide (f x)) = true) (x : α) (hx : x ∈ l) : f x := of_decide_eq_true (List.all_eq_true.mp h x hx)
theorem rng_len (n : Nat) : (rng 0 1 n).length = n := by simp [rng]
theorem lawOK_of_check {M Y : List Int} (h : lawB M Y = true) (hM : rowB M = true) (hY : rowB Y = true) : LawOK M Y := by
  unfold lawB at h
  unfold rowB at hM hY
  simp only [Bool.and_eq_true, decide_eq_true_eq] at h hM hY
  obtain ⟨⟨⟨⟨⟨⟨⟨⟨⟨⟨⟨⟨⟨⟨h1, h2⟩, h3⟩, h4⟩, h5⟩, h6⟩, h7⟩, h8⟩, h9⟩, h10⟩, h11⟩, h12⟩, h13⟩, h14⟩, h15⟩ := h
  obtain ⟨⟨m1, m2⟩, m3⟩ := hM
  obtain ⟨⟨y1, y2⟩, y3⟩ := hY
  have at7 : ∀ t ∈ rng 0 1 (maxL (M ++ Y)).toNat, ∃ n : Nat, t = (n : Int) ∧ n ∈ List.range 7 := fun t ht => by
    obtain ⟨a, b⟩ := rng_mem ht
    exact ⟨t.toNat, by (first | lia | omega), List.mem_range.mpr (by (first | lia | omega))⟩
  refine ⟨h1, by (first | lia | omega), fun t ht => ?_, fun t ht => ?_, m2, y2, m3, y3, h3, h4, nearN_all h5 m2 y2, eq_of_beq h6, eq_of_beq h7, eq_of_beq h8, eq_of_beq h9, h10, h11, nearN_all h12 ?_ ?_, fun hb => ?_, fun hb1 hb2 => ?_, eq_of_beq h15⟩
  · obtain ⟨n, rfl, hn⟩ := at7 t ht
    exact all_dec (f := fun t : Nat => aboveF M (t : Int) = dueF M (t : Int)) m1 n hn
  · obtain ⟨n, rfl, hn⟩ := at7 t ht
    exact all_dec (f := fun t : Nat => aboveF Y (t : Int) = dueF Y (t : Int)) y1 n hn
  · unfold othF; rw [List.length_map, rng_len]
  · unfold colF; rw [List.length_map, rng_len]
  · rw [hb] at h13; exact h13
  · rw [hb1, hb2] at h14; exact h14

/-- the rows that come up, by their sum: of numbers below 4; raised or not -/
noncomputable def tabs : List (List (List Nat) × List (List Nat)) := [([[0, 0, 0, 0]], [[0, 0, 0, 0]]), ([[0, 0, 0, 1]], [[0, 0, 0, 1]]), ([[0, 0, 0, 2], [0, 0, 1, 1]], [[0, 0, 0, 2], [0, 0, 1, 1]]), ([[0, 0, 0, 3], [0, 0, 1, 2], [0, 1, 1, 1]], [[0, 0, 0, 3], [0, 0, 1, 2], [0, 1, 1, 1]]), ([[0, 0, 1, 3], [0, 0, 2, 2], [0, 1, 1, 2], [1, 1, 1, 1]], [[0, 0, 0, 4], [0, 0, 1, 3], [0, 0, 2, 2], [0, 1, 1, 2], [1, 1, 1, 1]]), ([[0, 0, 2, 3], [0, 1, 1, 3], [0, 1, 2, 2], [1, 1, 1, 2]], [[0, 0, 1, 4], [0, 0, 2, 3], [0, 1, 1, 3], [0, 1, 2, 2], [1, 1, 1, 2]]), ([[0, 0, 3, 3], [0, 1, 2, 3], [0, 2, 2, 2], [1, 1, 1, 3], [1, 1, 2, 2]], [[0, 0, 2, 4], [0, 0, 3, 3], [0, 1, 1, 4], [0, 1, 2, 3], [0, 2, 2, 2], [1, 1, 1, 3], [1, 1, 2, 2]]), ([[0, 1, 3, 3], [0, 2, 2, 3], [1, 1, 2, 3], [1, 2, 2, 2]], [[0, 0, 3, 4], [0, 1, 2, 4], [0, 1, 3, 3], [0, 2, 2, 3], [1, 1, 1, 4], [1, 1, 2, 3], [1, 2, 2, 2]]), ([[0, 2, 3, 3], [1, 1, 3, 3], [1, 2, 2, 3], [2, 2, 2, 2]], [[0, 0, 4, 4], [0, 1, 3, 4], [0, 2, 2, 4], [0, 2, 3, 3], [1, 1, 1, 5], [1, 1, 2, 4], [1, 1, 3, 3], [1, 2, 2, 3], [2, 2, 2, 2]]), ([[0, 3, 3, 3], [1, 2, 3, 3], [2, 2, 2, 3]], [[0, 1, 4, 4], [0, 2, 3, 4], [0, 3, 3, 3], [1, 1, 2, 5], [1, 1, 3, 4], [1, 2, 2, 4], [1, 2, 3, 3], [2, 2, 2, 3]]), ([[1, 3, 3, 3], [2, 2, 3, 3]], [[0, 2, 4, 4], [0, 3, 3, 4], [1, 1, 3, 5], [1, 1, 4, 4], [1, 2, 2, 5], [1, 2, 3, 4], [1, 3, 3, 3], [2, 2, 2, 4], [2, 2, 3, 3]]), ([[2, 3, 3, 3]], [[0, 3, 4, 4], [1, 1, 4, 5], [1, 2, 3, 5], [1, 2, 4, 4], [1, 3, 3, 4], [2, 2, 2, 5], [2, 2, 3, 4], [2, 3, 3, 3]]), ([[3, 3, 3, 3]], [[0, 4, 4, 4], [1, 1, 5, 5], [1, 2, 4, 5], [1, 3, 3, 5], [1, 3, 4, 4], [2, 2, 2, 6], [2, 2, 3, 5], [2, 2, 4, 4], [2, 3, 3, 4], [3, 3, 3, 3]])]
noncomputable def tM (s : Nat) : List (List Nat) := (tabs.getD s ([], [])).1
noncomputable def tY (s : Nat) : List (List Nat) := (tabs.getD s ([], [])).2
noncomputable def inL (M : List Nat) (x : Nat) : List Nat := insN M (bisLN M x) x
noncomputable def inR (M : List Nat) (x : Nat) : List Nat := insN M (bisRN M x) x
noncomputable def chk1 : Bool := [0, 1, 2, 3].all fun a => [0, 1, 2, 3].all fun b => [0, 1, 2, 3].all fun c => [0, 1, 2, 3].all fun d => (tM (a + b + c + d)).contains (inL (inL (inL (inL [] a) b) c) d) && (tM (a + b + c + d)).contains (inR (inR (inR (inR [] a) b) c) d)
noncomputable def chk2 (g : Nat) : Bool := [0, 1, 2, 3].all fun a => [0, 1, 2, 3].all fun b => [0, 1, 2, 3].all fun c => [0, 1, 2, 3].all fun d => decide (12 < a + b + c + d + g) ||
  ((tY (a + b + c + d + g)).contains (inL (inL (inL (inL [] (a + (3 + g) / 4)) (b + (2 + g) / 4)) (c + (1 + g) / 4)) (d + g / 4)) && (tY (a + b + c + d + g)).contains (inR (inR (inR (inR [] (a + (3 + g) / 4)) (b + (2 + g) / 4)) (c + (1 + g) / 4)) (d + g / 4)))
noncomputable def chk3 (s : Nat) : Bool := (tM s).all fun M => (tY s).all fun Y => lawB (up M) (up Y) && ((tM s).contains Y || lawB (up Y) (up M))
noncomputable def chk4 (s : Nat) : Bool := (tM s).all (fun M => (tY s).contains M) && (tY s).all fun Y => rowB (up Y)
section
set_option maxRecDepth 100000
theorem chk1_ok : chk1 = true := by decide +kernel
theorem chk2_0 : chk2 0 = true := by decide +kernel
theorem chk2_1 : chk2 1 = true := by decide +kernel
theorem chk2_2 : chk2 2 = true := by decide +kernel
theorem chk2_3 : chk2 3 = true := by decide +kernel
theorem chk2_4 : chk2 4 = true := by decide +kernel
theorem chk2_5 : chk2 5 = true := by decide +kernel
theorem chk2_6 : chk2 6 = true := by decide +kernel
theorem chk2_7 : chk2 7 = true := by decide +kernel
theorem chk2_8 : chk2 8 = true := by decide +kernel
theorem chk2_9 : chk2 9 = true := by decide +kernel
theorem chk2_10 : chk2 10 = true := by decide +kernel
theorem chk2_11 : chk2 11 = true := by decide +kernel
theorem chk2_12 : chk2 12 = true := by decide +kernel
theorem chk3_0 : chk3 0 = true := by decide +kernel
theorem chk3_1 : chk3 1 = true := by decide +kernel
theorem chk3_2 : chk3 2 = true := by decide +kernel
theorem chk3_3 : chk3 3 = true := by decide +kernel
theorem chk3_4 : chk3 4 = true := by decide +kernel
theorem chk3_5 : chk3 5 = true := by decide +kernel
theorem chk3_6 : chk3 6 = true := by decide +kernel
theorem chk3_7 : chk3 7 = true := by decide +kernel
theorem chk3_8 : chk3 8 = true := by decide +kernel
theorem chk3_9 : chk3 9 = true := by decide +kernel
theorem chk3_10 : chk3 10 = true := by decide +kernel
theorem chk3_11 : chk3 11 = true := by decide +kernel
theorem chk3_12 : chk3 12 = true := by decide +kernel
theorem chk4_0 : chk4 0 = true := by decide +kernel
theorem chk4_1 : chk4 1 = true := by decide +kernel
theorem chk4_2 : chk4 2 = true := by decide +kernel
theorem chk4_3 : chk4 3 = true := by decide +kernel
theorem chk4_4 : chk4 4 = true := by decide +kernel
theorem chk4_5 : chk4 5 = true := by decide +kernel
theorem chk4_6 : chk4 6 = true := by decide +kernel
theorem chk4_7 : chk4 7 = true := by decide +kernel
theorem chk4_8 : chk4 8 = true := by decide +kernel
theorem chk4_9 : chk4 9 = true := by decide +kernel
theorem chk4_10 : chk4 10 = true := by decide +kernel
theorem chk4_11 : chk4 11 = true := by decide +kernel
theorem chk4_12 : chk4 12 = true := by decide +kernel
end
theorem chk2_ok : ∀ g ≤ 12, chk2 g = true
  | 0, _ => chk2_0
  | 1, _ => chk2_1
  | 2, _ => chk2_2
  | 3, _ => chk2_3
  | 4, _ => chk2_4
  | 5, _ => chk2_5
  | 6, _ => chk2_6
  | 7, _ => chk2_7
  | 8, _ => chk2_8
  | 9, _ => chk2_9
  | 10, _ => chk2_10
  | 11, _ => chk2_11
  | 12, _ => chk2_12
  | n + 13, h => absurd h (by (first | lia | omega))
theorem chk3_ok : ∀ g ≤ 12, chk3 g = true
  | 0, _ => chk3_0
  | 1, _ => chk3_1
  | 2, _ => chk3_2
  | 3, _ => chk3_3
  | 4, _ => chk3_4
  | 5, _ => chk3_5
  | 6, _ => chk3_6
  | 7, _ => chk3_7
  | 8, _ => chk3_8
  | 9, _ => chk3_9
  | 10, _ => chk3_10
  | 11, _ => chk3_11
  | 12, _ => chk3_12
  | n + 13, h => absurd h (by (first | lia | omega))
theorem chk4_ok : ∀ g ≤ 12, chk4 g = true
  | 0, _ => chk4_0
  | 1, _ => chk4_1
  | 2, _ => chk4_2
  | 3, _ => chk4_3
  | 4, _ => chk4_4
  | 5, _ => chk4_5
  | 6, _ => chk4_6
  | 7, _ => chk4_7
  | 8, _ => chk4_8
  | 9, _ => chk4_9
  | 10, _ => chk4_10
  | 11, _ => chk4_11
  | 12, _ => chk4_12
  | n + 13, h => absurd h (by (first | lia | omega))

theorem mem_of_contains {l : List (List Nat)} {x : List Nat} (h : l.contains x = true) : x ∈ l := List.contains_iff_mem.mp h
theorem fin_le {s : Nat} (hs : s ≤ 12) {M Y : List Nat} (hM : M ∈ tM s) (hY : Y ∈ tY s) : LawOK (up M) (up Y) ∧ LawOK (up Y) (up M) := by
  have h3 := chk3_ok s hs
  have h4 := chk4_ok s hs
  unfold chk3 at h3
  unfold chk4 at h4
  rw [Bool.and_eq_true] at h4
  have hMY := mem_of_contains (List.all_eq_true.mp h4.1 M hM)
  have r1 := List.all_eq_true.mp h4.2 M hMY
  have r2 := List.all_eq_true.mp h4.2 Y hY
  have a := Bool.and_eq_true_iff.mp (List.all_eq_true.mp (List.all_eq_true.mp h3 M hM) Y hY)
  refine ⟨lawOK_of_check a.1 r1 r2, ?_⟩
  rcases Bool.or_eq_true_iff.mp a.2 with h | h
  · have b := Bool.and_eq_true_iff.mp (List.all_eq_true.mp (List.all_eq_true.mp h3 Y (mem_of_contains h)) M hMY)
    exact lawOK_of_check b.1 r2 r1
  · exact lawOK_of_check h r2 r1
theorem mem4 {a : Nat} (h : a < 4) : a ∈ [0, 1, 2, 3] := by
  have : a = 0 ∨ a = 1 ∨ a = 2 ∨ a = 3 := by (first | lia | omega)
  rcases this with rfl | rfl | rfl | rfl <;> decide
theorem rows_plain {a b c d : Nat} (ha : a < 4) (hb : b < 4) (hc : c < 4) (hd : d < 4) : upL [a, b, c, d] 4 ∈ tM (a + b + c + d) ∧ upR [a, b, c, d] 4 ∈ tM (a + b + c + d) := by
  have h := chk1_ok
  unfold chk1 at h
  have := Bool.and_eq_true_iff.mp (List.all_eq_true.mp (List.all_eq_true.mp (List.all_eq_true.mp (List.all_eq_true.mp h a (mem4 ha)) b (mem4 hb)) c (mem4 hc)) d (mem4 hd))
  exact ⟨mem_of_contains this.1, mem_of_contains this.2⟩
theorem rows_lift {a b c d : Nat} (ha : a < 4) (hb : b < 4) (hc : c < 4) (hd : d < 4) {g : Nat} (hg : a + b + c + d + g ≤ 12) :
    upL [a + (3 + g) / 4, b + (2 + g) / 4, c + (1 + g) / 4, d + g / 4] 4 ∈ tY (a + b + c + d + g) ∧ upR [a + (3 + g) / 4, b + (2 + g) / 4, c + (1 + g) / 4, d + g / 4] 4 ∈ tY (a + b + c + d + g) := by
  have h := chk2_ok g (by (first | lia | omega))
  unfold chk2 at h
  rcases Bool.or_eq_true_iff.mp (List.all_eq_true.mp (List.all_eq_true.mp (List.all_eq_true.mp (List.all_eq_true.mp h a (mem4 ha)) b (mem4 hb)) c (mem4 hc)) d (mem4 hd)) with q | q
  · have := of_decide_eq_true q; (first | lia | omega)
  · have := Bool.and_eq_true_iff.mp q
    exact ⟨mem_of_contains this.1, mem_of_contains this.2⟩
theorem fmod4 (c : Int) : ∃ n : Nat, c.fmod 4 = (n : Int) ∧ n < 4 := by
  rw [Int.fmod_eq_emod_of_nonneg _ (by decide)]
  exact ⟨(c % 4).toNat, by (first | lia | omega), by (first | lia | omega)⟩
theorem lift_none (k : Nat) (g : Int) (hg : 0 ≤ g) : max 0 ((3 - (k : Int) - g).fdiv 4) = 0 := by
  rw [Int.fdiv_eq_ediv_of_nonneg _ (by decide)]; (first | lia | omega)
theorem lift_some (k : Nat) (g : Nat) (hk : k ≤ 3) : max 0 ((3 - (k : Int) + (g : Int)).fdiv 4) = (((3 - k + g) / 4 : Nat) : Int) := by
  rw [Int.fdiv_eq_ediv_of_nonneg _ (by decide)]; (first | lia | omega)
theorem pick_lo {α : Type} (c0 c1 c2 c3 c4 c5 c6 c7 : α) : pickL [c0, c1, c2, c3, c4, c5, c6, c7] none (some 4) none = [c0, c1, c2, c3] := by
  have e : sliceRange (sliceBounds none (some 4) none 8).1 (sliceBounds none (some 4) none 8).2.1 (sliceBounds none (some 4) none 8).2.2 = [0, 1, 2, 3] := by decide
  show (sliceRange (sliceBounds none (some 4) none 8).1 (sliceBounds none (some 4) none 8).2.1 (sliceBounds none (some 4) none 8).2.2).filterMap _ = _
  rw [e]; rfl
theorem pick_hi {α : Type} (c0 c1 c2 c3 c4 c5 c6 c7 : α) : pickL [c0, c1, c2, c3, c4, c5, c6, c7] (some 4) none none = [c4, c5, c6, c7] := by
  have e : sliceRange (sliceBounds (some 4) none none 8).1 (sliceBounds (some 4) none none 8).2.1 (sliceBounds (some 4) none none 8).2.2 = [4, 5, 6, 7] := by decide
  show (sliceRange (sliceBounds (some 4) none none 8).1 (sliceBounds (some 4) none none 8).2.1 (sliceBounds (some 4) none none 8).2.2).filterMap _ = _
  rw [e]; rfl
theorem gap8 (c0 c1 c2 c3 c4 c5 c6 c7 : Int) : gapF [c0, c1, c2, c3, c4, c5, c6, c7] = (c0.fmod 4 + (c1.fmod 4 + (c2.fmod 4 + c3.fmod 4))) - (c4.fmod 4 + (c5.fmod 4 + (c6.fmod 4 + c7.fmod 4))) := by
  unfold gapF mod4
  rw [pick_lo, pick_hi]
  simp only [List.map_cons, List.map_nil, List.sum_cons, List.sum_nil, Int.add_zero]
/-- one row: its numbers, as they are and raised -/
theorem lift4 {c0 c1 c2 c3 : Int} {a0 a1 a2 a3 : Nat} (e0 : c0.fmod 4 = (a0 : Int)) (e1 : c1.fmod 4 = (a1 : Int)) (e2 : c2.fmod 4 = (a2 : Int)) (e3 : c3.fmod 4 = (a3 : Int)) (f : Nat → Int) (hf0 : f 0 = c0) (hf1 : f 1 = c1) (hf2 : f 2 = c2) (hf3 : f 3 = c3) (g : Nat) :
    (∀ k < 4, (f k).fmod 4 + max 0 ((3 - (k : Int) - (g : Int)).fdiv 4) = (([a0, a1, a2, a3].getD k 0 : Nat) : Int)) ∧
    (∀ k < 4, (f k).fmod 4 + max 0 ((3 - (k : Int) + (g : Int)).fdiv 4) = (([a0 + (3 + g) / 4, a1 + (2 + g) / 4, a2 + (1 + g) / 4, a3 + g / 4].getD k 0 : Nat) : Int)) := by
  constructor
  · intro k hk
    rw [lift_none k _ (by (first | lia | omega)), Int.add_zero]
    match k, hk with
    | 0, _ => rw [hf0]; exact e0
    | 1, _ => rw [hf1]; exact e1
    | 2, _ => rw [hf2]; exact e2
    | 3, _ => rw [hf3]; exact e3
  · intro k hk
    rw [lift_some k g (by (first | lia | omega))]
    match k, hk with
    | 0, _ => rw [hf0, e0]; exact (Int.natCast_add _ _).symm
    | 1, _ => rw [hf1, e1]; exact (Int.natCast_add _ _).symm
    | 2, _ => rw [hf2, e2]; exact (Int.natCast_add _ _).symm
    | 3, _ => rw [hf3, e3, show 3 - 3 + g = g by (first | lia | omega)]; exact (Int.natCast_add _ _).symm
theorem lawOK_fin (c0 c1 c2 c3 c4 c5 c6 c7 : Int) : LawOK (rowM [c0, c1, c2, c3, c4, c5, c6, c7] (gapF [c0, c1, c2, c3, c4, c5, c6, c7]) 4) (rowY [c0, c1, c2, c3, c4, c5, c6, c7] (gapF [c0, c1, c2, c3, c4, c5, c6, c7]) 4) := by
  have hgap := gap8 c0 c1 c2 c3 c4 c5 c6 c7
  generalize gapF [c0, c1, c2, c3, c4, c5, c6, c7] = gap at hgap ⊢
  obtain ⟨a0, e0, l0⟩ := fmod4 c0
  obtain ⟨a1, e1, l1⟩ := fmod4 c1
  obtain ⟨a2, e2, l2⟩ := fmod4 c2
  obtain ⟨a3, e3, l3⟩ := fmod4 c3
  obtain ⟨b0, e4, l4⟩ := fmod4 c4
  obtain ⟨b1, e5, l5⟩ := fmod4 c5
  obtain ⟨b2, e6, l6⟩ := fmod4 c6
  obtain ⟨b3, e7, l7⟩ := fmod4 c7
  rw [e0, e1, e2, e3, e4, e5, e6, e7] at hgap
  by_cases hg : 0 ≤ gap
  · obtain ⟨g, rfl⟩ := Int.eq_ofNat_of_zero_le hg
    have hM := (lift4 e0 e1 e2 e3 (fun k => [c0, c1, c2, c3, c4, c5, c6, c7].getD k 0) rfl rfl rfl rfl g).1
    have hY := (lift4 e4 e5 e6 e7 (fun k => [c0, c1, c2, c3, c4, c5, c6, c7].getD (4 + k) 0) rfl rfl rfl rfl g).2
    rw [rowM_up hM 4 (Nat.le_refl _), rowY_up hY 4 (Nat.le_refl _)]
    have hs : a0 + a1 + a2 + a3 = b0 + b1 + b2 + b3 + g := by (first | lia | omega)
    have h1 := (rows_plain l0 l1 l2 l3).1
    rw [hs] at h1
    exact (fin_le (by (first | lia | omega)) h1 (rows_lift l4 l5 l6 l7 (by (first | lia | omega))).2).1
  · obtain ⟨g, hg'⟩ := Int.eq_ofNat_of_zero_le (a := -gap) (by (first | lia | omega))
    have e : gap = -(g : Int) := by (first | lia | omega)
    subst e
    have hM := (lift4 e0 e1 e2 e3 (fun k => [c0, c1, c2, c3, c4, c5, c6, c7].getD k 0) rfl rfl rfl rfl g).2
    have hY := (lift4 e4 e5 e6 e7 (fun k => [c0, c1, c2, c3, c4, c5, c6, c7].getD (4 + k) 0) rfl rfl rfl rfl g).1
    rw [rowM_up (v := [a0 + (3 + g) / 4, a1 + (2 + g) / 4, a2 + (1 + g) / 4, a3 + g / 4]) (fun k hk => by
        have := hM k hk
        rw [show (3 : Int) - (k : Int) + (g : Int) = 3 - (k : Int) - -(g : Int) by (first | lia | omega)] at this
        exact this) 4 (Nat.le_refl _),
      rowY_up (v := [b0, b1, b2, b3]) (fun k hk => by
        have := hY k hk
        rw [show (3 : Int) - (k : Int) - (g : Int) = 3 - (k : Int) + -(g : Int) by (first | lia | omega)] at this
        exact this) 4 (Nat.le_refl _)]
    have hs : b0 + b1 + b2 + b3 = a0 + a1 + a2 + a3 + g := by (first | lia | omega)
    have h1 := (rows_plain l4 l5 l6 l7).2
    rw [hs] at h1
    exact (fin_le (by (first | lia | omega)) h1 (rows_lift l0 l1 l2 l3 (by (first | lia | omega))).1).2
theorem lawOK_of (ns : List Int) : LawOK (rowM (cellL ns) (gapF (cellL ns)) 4) (rowY (cellL ns) (gapF (cellL ns)) 4) := lawOK_fin _ _ _ _ _ _ _ _

set_option maxRecDepth 100000 in
set_option maxHeartbeats 8000000 in
theorem go : PySem.Challenge.rw_ux0018_01.Holds := hd (by
  w_strict (
  intro w s₀ s₁ mg mb G Y fa o pm cd doc dV kV ho hd hcd hD hmg hg args vals as hpre hlay hrd hwl hlo
  have KX := kIn_of Y
  refine Ground.open G ?_
  intro T B D TE TW
  have e : mg (Str.ofString "law") = some (.ref 160) := mg_of KX T.g rfl
  cases (hmg.symm.trans e)
  clear hd hcd hD e hmg ho Y G B D TE TW
  wrow_args hpre hlay hrd hwl hlo
  rename_i ns _ _ _ _ _ _ _ l vs _ hL _ _ _ hI _ hz _
  refine enter_call ?_
  refine law_code KX T.g T.b T.nolimit T.builtins hg hL hI (by (first | lia | omega)) (lawOK_of ns) (fun s' hk ho hb => ?_) rfl
  refine ⟨.inl ⟨.bool true, .bool true, [], rfl, fun _ => rfl, .bool true, by with_unfolding_all rfl, fun _ => ⟨List.nodup_nil, fun _ h => absurd h List.not_mem_nil⟩⟩, .of_keep hk, ho, hb⟩))

end Mine
set_option maxRecDepth 100000 in
set_option maxHeartbeats 8000000 in
theorem PySem.Challenge.cw_ux0018_01_holds : PySem.Challenge.rw_ux0018_01.Holds :=
  Mine.go
