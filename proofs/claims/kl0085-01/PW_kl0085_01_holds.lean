import PyProof.Rows.All
import Wide.All
import OpenK.AllK
import Wide.FinOn
import PySem.Challenge.RW_kl0085_01
set_option Elab.async false

namespace Mine
open PySem PySem.Calls PySem.Spec PyProof.Rows
set_option maxRecDepth 100000

/-- a frozen part of the heap -/
noncomputable abbrev Part := Addr → Option Obj
noncomputable def Part.le (k k' : Part) : Prop := ∀ b o, k b = some o → k' b = some o
noncomputable def Part.inH (k : Part) (h : Heap) : Prop := ∀ b o, k b = some o → h.get? b = some o
noncomputable def Part.put (k : Part) (a : Addr) (o : Obj) : Part := fun b => if b = a then some o else k b
theorem Part.le.refl (k : Part) : Part.le k k := fun _ _ e => e
theorem Part.le.trans {a b c : Part} (x : Part.le a b) (y : Part.le b c) : Part.le a c := fun q o e => y q o (x q o e)

inductive D where
  | none
  | bool (b : Bool)
  | int (i : Int)
  | flt (x : UInt64)
  | str (x : Str)
  | list (xs : List D)
  | tup (xs : List D)
  | acc (xs : List D) (i : Int)

noncomputable def NsO (o : Obj) (m : Str → Option Value) : Prop := ∃ es ep, o.data = .dict es ep ∧ StrKeys es ∧ ∀ x, nsFind es x = m x
noncomputable def IniD (o : Obj) (i : Int) : Prop := ∃ t, NsO o (fun x => if x = ("_initial_size" : Str) then some (.int i t) else none)
noncomputable abbrev accO (vs : Array Value) (n : Nat) (dx : Addr) : Obj := { cls := .ref 100, dict := some dx, data := .seq vs n }
noncomputable abbrev seqO (c : String) (vs : Array Value) (n : Nat) : Obj := { cls := .type c, data := .seq vs n }

mutual
inductive Rd (k : Part) : Value → D → Prop
  | none : Rd k .none .none
  | bool (b : Bool) : Rd k (.bool b) (.bool b)
  | int (i : Int) (t : Tok) : Rd k (.int i t) (.int i)
  | flt (x : UInt64) (t : Tok) (ht : 0 < t) : Rd k (.float x t) (.flt x)
  | str (x : Str) (t : Tok) : Rd k (.str x t) (.str x)
  | list {a : Addr} {vs : List Value} {n : Nat} {ds : List D} (h : k a = some (seqO "list" vs.toArray n)) (r : Rds k vs ds) : Rd k (.ref a) (.list ds)
  | tup {a : Addr} {vs : List Value} {n : Nat} {ds : List D} (h : k a = some (seqO "tuple" vs.toArray n)) (r : Rds k vs ds) : Rd k (.ref a) (.tup ds)
  | acc {a dx : Addr} {od : Obj} {vs : List Value} {n : Nat} {ds : List D} {i : Int} (h : k a = some (accO vs.toArray n dx)) (hd : k dx = some od) (hi : IniD od i) (r : Rds k vs ds) : Rd k (.ref a) (.acc ds i)
inductive Rds (k : Part) : List Value → List D → Prop
  | nil : Rds k [] []
  | cons {v : Value} {d : D} {vs : List Value} {ds : List D} (h : Rd k v d) (r : Rds k vs ds) : Rds k (v :: vs) (d :: ds)
end

mutual
theorem Rd.mono {k k' : Part} (hk : Part.le k k') : ∀ {v : Value} {d : D}, Rd k v d → Rd k' v d
  | _, _, .none => .none
  | _, _, .bool b => .bool b
  | _, _, .int i t => .int i t
  | _, _, .flt x t ht => .flt x t ht
  | _, _, .str x t => .str x t
  | _, _, .list h r => .list (hk _ _ h) (Rds.mono hk r)
  | _, _, .tup h r => .tup (hk _ _ h) (Rds.mono hk r)
  | _, _, .acc h hd hi r => .acc (hk _ _ h) (hk _ _ hd) hi (Rds.mono hk r)
theorem Rds.mono {k k' : Part} (hk : Part.le k k') : ∀ {vs : List Value} {ds : List D}, Rds k vs ds → Rds k' vs ds
  | _, _, .nil => .nil
  | _, _, .cons h r => .cons (Rd.mono hk h) (Rds.mono hk r)
end

theorem Rds.length {k : Part} : ∀ {vs : List Value} {ds : List D}, Rds k vs ds → vs.length = ds.length
  | _, _, .nil => rfl
  | _, _, .cons _ r => by rw [List.length_cons, List.length_cons, r.length]
theorem Rds.get {k : Part} : ∀ {vs : List Value} {ds : List D}, Rds k vs ds → ∀ {i : Nat} {v : Value}, vs[i]? = some v → ∃ d, ds[i]? = some d ∧ Rd k v d
  | _, _, .nil, _, _, e => by simp at e
  | _, _, .cons h r, 0, _, e => by simp at e; subst e; exact ⟨_, rfl, h⟩
  | _, _, .cons h r, i + 1, _, e => by simpa using r.get (i := i) (by simpa using e)
theorem Rds.get' {k : Part} : ∀ {vs : List Value} {ds : List D}, Rds k vs ds → ∀ {i : Nat} {d : D}, ds[i]? = some d → ∃ v, vs[i]? = some v ∧ Rd k v d
  | _, _, .nil, _, _, e => by simp at e
  | _, _, .cons h r, 0, _, e => by simp at e; subst e; exact ⟨_, rfl, h⟩
  | _, _, .cons h r, i + 1, _, e => by simpa using r.get' (i := i) (by simpa using e)
theorem Rds.append {k : Part} : ∀ {vs : List Value} {ds : List D}, Rds k vs ds → ∀ {vs' : List Value} {ds' : List D}, Rds k vs' ds' → Rds k (vs ++ vs') (ds ++ ds')
  | _, _, .nil, _, _, r => r
  | _, _, .cons h r, _, _, r' => .cons h (r.append r')
theorem Rds.take {k : Part} : ∀ {vs : List Value} {ds : List D}, Rds k vs ds → ∀ n, Rds k (vs.take n) (ds.take n)
  | _, _, .nil, _ => by simpa using Rds.nil
  | _, _, .cons _ _, 0 => .nil
  | _, _, .cons h r, n + 1 => .cons h (r.take n)
theorem Rds.drop {k : Part} : ∀ {vs : List Value} {ds : List D}, Rds k vs ds → ∀ n, Rds k (vs.drop n) (ds.drop n)
  | _, _, .nil, _ => by simpa using Rds.nil
  | _, _, .cons h r, 0 => .cons h r
  | _, _, .cons _ r, n + 1 => r.drop n

/-- the two code tables that a first use of a generator expression fills -/
noncomputable def V : List Addr := [62, 69]
noncomputable def Tab (h : Heap) : Prop := (∃ ps, h.IsCode 66 62 ps ∧ h.TableAt 66 62 ps) ∧ ∃ ps, h.IsCode 73 69 ps ∧ h.TableAt 73 69 ps

theorem Tab.there {h : Heap} (t : Tab h) : ∀ b ∈ V, ∃ o, h.get? b = some o := by
  obtain ⟨⟨ps, _, h1⟩, ps', _, h2⟩ := t
  intro b hb
  simp only [V, List.mem_cons, List.not_mem_nil, or_false] at hb
  rcases hb with rfl | rfl
  · exact ⟨_, h1.2⟩
  · exact ⟨_, h2.2⟩

structure Gd where
  prog : Program
  w : World
  kB : Part
  mg : Str → Option Value
  mb : Str → Option Value
noncomputable abbrev Gd.M (G : Gd) : Model := model G.prog G.w

structure Ok (G : Gd) (k : Part) (s : Shared) : Prop where
  base : Part.le G.kB k
  sub : k.inH s.heap
  vol : ∀ b ∈ V, k b = none
  bare : AllBare s.gens
  tab : Tab s.heap
  tk : 0 < s.toks

structure Gr (X : List Addr) (k : Part) (s : Shared) (k' : Part) (s' : Shared) : Prop where
  ext : Part.le k k'
  sub : k'.inH s'.heap
  vol : ∀ b ∈ V, k' b = none
  new : ∀ b o, k' b = some o → k b = some o ∨ b ∈ X ∨ s.heap.get? b = none
  keep : ∀ b o, b ∉ X → s.heap.get? b = some o → s'.heap.get? b = some o
  there : ∀ b o, s.heap.get? b = some o → ∃ o', s'.heap.get? b = some o'
  os : s'.os = s.os
  bare : AllBare s'.gens
  tab : Tab s'.heap
  tk : 0 < s'.toks

theorem Ok.grow {G : Gd} {X : List Addr} {k k' : Part} {s s' : Shared} (ok : Ok G k s) (g : Gr X k s k' s') : Ok G k' s' :=
  ⟨ok.base.trans g.ext, g.sub, g.vol, g.bare, g.tab, g.tk⟩

theorem Gr.new' {k k' : Part} {s s' : Shared} (g : Gr V k s k' s') {b : Addr} {o : Obj} (e : k' b = some o) : k b = some o ∨ s.heap.get? b = none := by
  rcases g.new b o e with h | h | h
  · exact .inl h
  · rw [g.vol b h] at e; cases e
  · exact .inr h

theorem Gr.refl {G : Gd} {k : Part} {s : Shared} (ok : Ok G k s) (X : List Addr) : Gr X k s k s :=
  ⟨Part.le.refl k, ok.sub, ok.vol, fun _ _ e => .inl e, fun _ _ _ e => e, fun _ o e => ⟨o, e⟩, rfl, ok.bare, ok.tab, ok.tk⟩

theorem Gr.none_of {X : List Addr} {k k₁ : Part} {s s₁ : Shared} (a : Gr X k s k₁ s₁) {q : Addr} (h : s₁.heap.get? q = none) : s.heap.get? q = none := by
  cases e' : s.heap.get? q with
  | none => rfl
  | some o' =>
    obtain ⟨o'', h''⟩ := a.there q o' e'
    rw [h] at h''; cases h''

/-- the second step may change what the first one made, too -/
theorem Gr.comp {X Y : List Addr} {k k₁ k₂ : Part} {s s₁ s₂ : Shared} (a : Gr X k s k₁ s₁) (b : Gr Y k₁ s₁ k₂ s₂) (hY : ∀ q ∈ Y, q ∈ X ∨ s.heap.get? q = none) : Gr X k s k₂ s₂ := by
  refine ⟨a.ext.trans b.ext, b.sub, b.vol, fun q o e => ?_,
   fun q o hq e => b.keep q o (fun hm => ?_) (a.keep q o hq e), fun q o e => let ⟨o', h'⟩ := a.there q o e; b.there q o' h', b.os.trans a.os, b.bare, b.tab, b.tk⟩
  · rcases b.new q o e with h | h | h
    · exact a.new q o h
    · exact .inr (hY q h)
    · exact .inr (.inr (a.none_of h))
  · rcases hY q hm with h | h
    · exact hq h
    · rw [h] at e; cases e
theorem Gr.trans {X : List Addr} {k k₁ k₂ : Part} {s s₁ s₂ : Shared} (a : Gr X k s k₁ s₁) (b : Gr X k₁ s₁ k₂ s₂) : Gr X k s k₂ s₂ := a.comp b fun _ h => .inl h

theorem Gr.mono {X Y : List Addr} {k k' : Part} {s s' : Shared} (a : Gr X k s k' s') (h : ∀ b ∈ X, b ∈ Y) : Gr Y k s k' s' :=
  ⟨a.ext, a.sub, a.vol, fun q o e => (a.new q o e).imp id (Or.imp (h q) id), fun q o hq e => a.keep q o (fun m => hq (h q m)) e, a.there, a.os, a.bare, a.tab, a.tk⟩

theorem get?_size (h : Heap) : h.get? h.objs.size = none := by
  cases e : h.get? h.objs.size with
  | none => rfl
  | some o => exact absurd (Heap.lt_size e) (Nat.lt_irrefl _)

/-- a heap that keeps all that stood -/
theorem Gr.keeps {G : Gd} {k : Part} {s : Shared} (ok : Ok G k s) {h' : Heap} {t : Nat} (hk : ∀ b o, s.heap.get? b = some o → h'.get? b = some o) (X : List Addr) (ht : 0 < t := by first | exact Nat.succ_pos _ | exact Ok.tk ‹_› | assumption) : Gr X k s k { s with heap := h', toks := t } :=
  ⟨Part.le.refl k, fun b o e => hk b o (ok.sub b o e), ok.vol, fun _ _ e => .inl e, fun b o _ e => hk b o e, fun b o e => ⟨o, hk b o e⟩, rfl, ok.bare,
   ⟨let ⟨ps, a, b⟩ := ok.tab.1; ⟨ps, a.keeps hk, b.keeps hk⟩, let ⟨ps, a, b⟩ := ok.tab.2; ⟨ps, a.keeps hk, b.keeps hk⟩⟩, ht⟩

/-- .. and whose new object is taken into the frozen part -/
theorem Gr.keepsPut {G : Gd} {k : Part} {s : Shared} (ok : Ok G k s) {h' : Heap} {t : Nat} {a : Addr} {o : Obj} (hk : ∀ b o, s.heap.get? b = some o → h'.get? b = some o)
    (ha : s.heap.get? a = none) (ho : h'.get? a = some o) (X : List Addr) (ht : 0 < t := by first | exact Nat.succ_pos _ | exact Ok.tk ‹_› | assumption) : Gr X k s (k.put a o) { s with heap := h', toks := t } := by
  have g := Gr.keeps ok (t := t) hk X ht
  have hka : k a = none := by
    cases e : k a with
    | none => rfl
    | some o' => rw [ok.sub a o' e] at ha; cases ha
  refine ⟨fun b o' e => ?_, fun b o' e => ?_, fun b hb => ?_, fun b o' e => ?_, g.keep, g.there, rfl, ok.bare, g.tab, ht⟩
  · unfold Part.put
    split
    · rename_i h; subst h; rw [hka] at e; cases e
    · exact e
  · unfold Part.put at e
    split at e
    · rename_i h; subst h; cases e; exact ho
    · exact hk b o' (ok.sub b o' e)
  · unfold Part.put
    split
    · rename_i h; subst h
      obtain ⟨o', h'⟩ := ok.tab.there b hb
      rw [ha] at h'; cases h'
    · exact ok.vol b hb
  · unfold Part.put at e
    split at e
    · rename_i h; subst h; exact .inr (.inr ha)
    · exact .inl e

theorem Part.put_self (k : Part) (a : Addr) (o : Obj) : (k.put a o) a = some o := by unfold Part.put; rw [if_pos rfl]

/-- room on the stack for n frames more -/
structure Rm (A : Around) (n : Nat) : Prop where
  hh : A.handled = none
  hd : A.depth + n < recursionLimit
  hu : A.units + 4 * n + 40 < cLine

theorem Rm.less {A : Around} {n m : Nat} (r : Rm A n) (h : m ≤ n) : Rm A m := ⟨r.hh, by have := r.hd; omega, by have := r.hu; omega⟩
theorem Rm.room {A : Around} {n : Nat} (r : Rm A n) : A.depth < recursionLimit := by have := r.hd; omega
theorem Rm.units {A : Around} {n : Nat} (r : Rm A n) : A.units < cLine := by have := r.hu; omega

/-- what a tree does with its arguments, told of the data -/
noncomputable def Act (G : Gd) (n : Nat) (t : List Value → Sem Value) (ds : List D) (d : D) : Prop :=
  ∀ (A : Around) (k : Part) (s : Shared) (vs : List Value) (Q : Value → Shared → Prop) (E : Value → Shared → Prop), Rm A n → Ok G k s → Rds k vs ds →
    (∀ k' s' v, Gr V k s k' s' → Rd k' v d → Q v s') → wpAny G.M A (t vs) Q E s

end Mine

namespace Mine
open PySem PySem.Calls PySem.Spec PyProof.Rows
set_option maxRecDepth 100000

noncomputable def notFields (o : Obj) : Prop := ∀ vs, o.data ≠ .fields vs

theorem Tab.away {h : Heap} (t : Tab h) {b : Addr} {o : Obj} (e : h.get? b = some o) (hf : notFields o) : b ∉ V ∧ b ≠ 66 ∧ b ≠ 73 ∧ b ≠ 62 ∧ b ≠ 69 := by
  obtain ⟨⟨ps, c1, h1⟩, ps', c2, h2⟩ := t
  have n62 : b ≠ 62 := fun q => by subst q; rw [h1.2] at e; cases e; exact hf _ rfl
  have n69 : b ≠ 69 := fun q => by subst q; rw [h2.2] at e; cases e; exact hf _ rfl
  refine ⟨fun m => ?_, fun q => ?_, fun q => ?_, n62, n69⟩
  · simp only [V, List.mem_cons, List.not_mem_nil, or_false] at m
    exact m.elim n62 n69
  · obtain ⟨o', vs, _, _, _, _, _, _, _, _, ho, hd, _⟩ := c1
    subst q; rw [ho] at e; cases e; exact hf _ hd
  · obtain ⟨o', vs, _, _, _, _, _, _, _, _, ho, hd, _⟩ := c2
    subst q; rw [ho] at e; cases e; exact hf _ hd

inductive Vl where
  | dat (d : D)
  | lst (ds : List D)
  | acc (ds : List D) (i : Int)
noncomputable abbrev Sto := List (Str × Vl)
noncomputable def upd (σ : Sto) (x : Str) (v : Vl) : Sto := (x, v) :: σ

noncomputable def VRd (k : Part) (o : List (Str × Addr)) (h : Heap) (x : Str) (v : Value) : Vl → Prop
  | .dat d => Rd k v d
  | .lst ds => ∃ a vs n, v = .ref a ∧ o.lookup x = some a ∧ h.get? a = some (seqO "list" vs n) ∧ Rds k vs.toList ds
  | .acc ds i => ∃ a vs n dx od, v = .ref a ∧ o.lookup x = some a ∧ h.get? a = some (accO vs n dx) ∧ Rds k vs.toList ds ∧ k dx = some od ∧ IniD od i

structure Cx where
  A : Around
  n : Nat
  env : Env
  mu : List Addr

noncomputable def VarAt (env : Env) (k : Part) (o : List (Str × Addr)) (h : Heap) (m : Str → Option Value) (x : Str) (V : Vl) : Prop :=
  ∃ v, ((env.kindOf x = some .local ∧ m x = some v) ∨ ((env.kindOf x = some .cell ∨ env.kindOf x = some .free) ∧ ∃ c, env.cells.lookup x = some c ∧ h.IsCell c (some v))) ∧ VRd k o h x v V

structure St (G : Gd) (Γ : Cx) (σ : Sto) (k : Part) (o : List (Str × Addr)) (s : Shared) : Prop where
  ok : Ok G k s
  rm : Rm Γ.A Γ.n
  fn : Γ.env.scope.kind = .function
  gl : Γ.env.globals = mainGlobals
  bl : Γ.env.builtins = builtinsNs
  mutk : ∀ b ∈ Γ.mu, k b = none ∧ ∃ ob, s.heap.get? b = some ob ∧ notFields ob
  locm : Γ.env.locals ∈ Γ.mu
  vars : ∃ m, s.heap.Ns Γ.env.locals m ∧ ∀ x V, σ.lookup x = some V → VarAt Γ.env k o s.heap m x V
  ownk : ∀ p ∈ o, k p.2 = none ∧ p.2 ∉ Γ.mu ∧ ∃ ob, s.heap.get? p.2 = some ob ∧ notFields ob
  ownd : (o.map (·.2)).Nodup
  cel : ∀ x c, Γ.env.cells.lookup x = some c → ∃ v, s.heap.IsCell c v
  celd : ∀ x y c, Γ.env.cells.lookup x = some c → Γ.env.cells.lookup y = some c → x = y

theorem mem_lookup {α β : Type} [BEq α] [LawfulBEq α] : ∀ {l : List (α × β)} {x : α} {y : β}, l.lookup x = some y → (x, y) ∈ l
  | [], _, _, h => by simp at h
  | (a, b) :: r, x, y, h => by
    rw [List.lookup_cons] at h
    cases e : x == a with
    | true => rw [e] at h; simp at h; subst h; rw [eq_of_beq e]; exact .head _
    | false => rw [e] at h; exact .tail _ (mem_lookup h)

theorem VRd.move {k k' : Part} {o : List (Str × Addr)} {h h' : Heap} {x : Str} {v : Value} {V : Vl} (r : VRd k o h x v V) (hk : Part.le k k')
    (ho : ∀ p ∈ o, ∀ ob, h.get? p.2 = some ob → h'.get? p.2 = some ob) : VRd k' o h' x v V := by
  cases V with
  | dat d => exact Rd.mono hk r
  | lst ds =>
    obtain ⟨a, vs, n, e, hl, hg, hr⟩ := r
    exact ⟨a, vs, n, e, hl, ho _ (mem_lookup hl) _ hg, hr.mono hk⟩
  | acc ds i =>
    obtain ⟨a, vs, n, dx, od, e, hl, hg, hr, hd, hi⟩ := r
    exact ⟨a, vs, n, dx, od, e, hl, ho _ (mem_lookup hl) _ hg, hr.mono hk, hk _ _ hd, hi⟩

theorem Heap.Ns.obj {h : Heap} {a : Addr} {m : Str → Option Value} (n : h.Ns a m) : ∃ ob, h.get? a = some ob ∧ notFields ob := by
  obtain ⟨o, es, ep, ho, hd, _⟩ := n
  exact ⟨o, ho, fun vs e => by rw [hd] at e; cases e⟩

/-- what changes lies apart from all that the frame speaks of -/
structure Aside (Γ : Cx) (o : List (Str × Addr)) (k : Part) (X : List Addr) : Prop where
  mu : ∀ b ∈ X, b ∉ Γ.mu
  own : ∀ b ∈ X, ∀ p ∈ o, p.2 ≠ b
  cel : ∀ b ∈ X, ∀ x c, Γ.env.cells.lookup x = some c → c ≠ b

/-- a growth that does not say what becomes of X -/
structure Gl (X : List Addr) (k : Part) (s : Shared) (k' : Part) (s' : Shared) : Prop where
  ext : Part.le k k'
  sub : k'.inH s'.heap
  vol : ∀ b ∈ V, k' b = none
  new : ∀ b o, k' b = some o → k b = some o ∨ b ∈ X ∨ s.heap.get? b = none
  keep : ∀ b o, b ∉ X → s.heap.get? b = some o → s'.heap.get? b = some o
  bare : AllBare s'.gens
  tab : Tab s'.heap
  tk : 0 < s'.toks
theorem Gr.gl {X : List Addr} {k k' : Part} {s s' : Shared} (g : Gr X k s k' s') : Gl X k s k' s' := ⟨g.ext, g.sub, g.vol, g.new, g.keep, g.bare, g.tab, g.tk⟩

theorem St.moveL {G : Gd} {Γ : Cx} {σ : Sto} {k k' : Part} {o : List (Str × Addr)} {s s' : Shared} {X : List Addr} (st : St G Γ σ k o s) (g : Gl X k s k' s') (ap : Aside Γ o k X) : St G Γ σ k' o s' := by
  have none' : ∀ b ob, b ∉ X → k b = none → s.heap.get? b = some ob → k' b = none := fun b ob hX hk e => by
    cases e' : k' b with
    | none => rfl
    | some o' =>
      rcases g.new b o' e' with q | q | q
      · rw [hk] at q; cases q
      · exact absurd q hX
      · rw [q] at e; cases e
  have muX : ∀ b ∈ Γ.mu, b ∉ X := fun b hb hX => ap.mu b hX hb
  have ownX : ∀ p ∈ o, p.2 ∉ X := fun p hp hX => ap.own _ hX p hp rfl
  refine ⟨⟨st.ok.base.trans g.ext, g.sub, g.vol, g.bare, g.tab, g.tk⟩, st.rm, st.fn, st.gl, st.bl, fun b hb => ?_, st.locm, ?_, fun p hp => ?_, st.ownd, fun x c hc => ?_, st.celd⟩
  · obtain ⟨h1, ob, h2, h3⟩ := st.mutk b hb
    exact ⟨none' b ob (muX b hb) h1 h2, ob, g.keep b ob (muX b hb) h2, h3⟩
  · obtain ⟨m, hn, hv⟩ := st.vars
    obtain ⟨ob, h2, h3⟩ := Heap.Ns.obj hn
    refine ⟨m, hn.at' fun o' e => ?_, fun x V' e => ?_⟩
    · rw [h2] at e; cases e; exact g.keep _ _ (muX _ st.locm) h2
    · obtain ⟨v, hw, hr⟩ := hv x V' e
      refine ⟨v, hw.imp id fun ⟨a, c, hc, oc, hoc, hd⟩ => ⟨a, c, hc, oc, g.keep _ _ (fun hX => ap.cel c hX x c hc rfl) hoc, hd⟩, hr.move g.ext fun p hp ob e => ?_⟩
      exact g.keep _ _ (ownX p hp) e
  · obtain ⟨h1, hm, ob, h2, h3⟩ := st.ownk p hp
    exact ⟨none' _ ob (ownX p hp) h1 h2, hm, ob, g.keep _ ob (ownX p hp) h2, h3⟩
  · obtain ⟨v, oc, hoc, hd⟩ := st.cel x c hc
    exact ⟨v, oc, g.keep _ _ (fun hX => ap.cel c hX x c hc rfl) hoc, hd⟩

theorem St.move {G : Gd} {Γ : Cx} {σ : Sto} {k k' : Part} {o : List (Str × Addr)} {s s' : Shared} {X : List Addr} (st : St G Γ σ k o s) (g : Gr X k s k' s') (ap : Aside Γ o k X) : St G Γ σ k' o s' := st.moveL g.gl ap

theorem St.asideV {G : Gd} {Γ : Cx} {σ : Sto} {k : Part} {o : List (Str × Addr)} {s : Shared} (st : St G Γ σ k o s) : Aside Γ o k V := by
  refine ⟨fun b hb hm => ?_, fun b hb p hp e => ?_, fun b hb x c hc e => ?_⟩
  · obtain ⟨_, ob, h2, h3⟩ := st.mutk b hm
    exact (st.ok.tab.away h2 h3).1 hb
  · obtain ⟨_, _, ob, h2, h3⟩ := st.ownk p hp
    exact (st.ok.tab.away h2 h3).1 (e ▸ hb)
  · obtain ⟨v, oc, hoc, hd⟩ := st.cel x c hc
    exact (st.ok.tab.away hoc (fun vs q => by rw [hd] at q; cases q)).1 (e ▸ hb)

theorem St.grow {G : Gd} {Γ : Cx} {σ : Sto} {k k' : Part} {o : List (Str × Addr)} {s s' : Shared} (st : St G Γ σ k o s) (g : Gr V k s k' s') : St G Γ σ k' o s' := st.move g st.asideV

/-- an expression comes to the datum d, and changes nothing -/
noncomputable def Ev (G : Gd) (Γ : Cx) (σ : Sto) (e : Expr) (d : D) : Prop :=
  ∀ k o s Q E, St G Γ σ k o s → (∀ k' s' v, Gr V k s k' s' → Rd k' v d → Q v s') → wpAny G.M Γ.A (eval e Γ.env) Q E s
/-- a test comes to b -/
noncomputable def Tv (G : Gd) (Γ : Cx) (σ : Sto) (e : Expr) (b : Bool) : Prop :=
  ∀ k o s Q E, St G Γ σ k o s → (∀ k' s', Gr V k s k' s' → Q b s') → wpAny G.M Γ.A (isTrue e Γ.env (eval e Γ.env)) Q E s

inductive Evs (G : Gd) (Γ : Cx) (σ : Sto) : List Expr → List D → Prop
  | nil : Evs G Γ σ [] []
  | cons {e : Expr} {d : D} {es : List Expr} {ds : List D} (he : ∀ env rest, starEach (e :: rest) env = (false, eval e env) :: starEach rest env) (h : Ev G Γ σ e d) (r : Evs G Γ σ es ds) : Evs G Γ σ (e :: es) (d :: ds)

section
variable {G : Gd} {Γ : Cx} {σ : Sto}

theorem spliced_evs {pos : Pos} : ∀ {es : List Expr} {ds : List D}, Evs G Γ σ es ds → ∀ {k o s} {Q : List Value → Shared → Prop} {E}, St G Γ σ k o s →
    (∀ k' s' vs, Gr V k s k' s' → Rds k' vs ds → Q vs s') → wpAny G.M Γ.A (spliced (backTo pos (starEach es Γ.env))) Q E s
  | _, _, .nil, k, o, s, Q, E, st, h => Calls.spliced_nil (h k s [] (Gr.refl st.ok V) .nil)
  | _, _, .cons he h r, k, o, s, Q, E, st, hq => by
    rw [he]
    refine Calls.spliced_cons (h k o s _ E st fun k₁ s₁ v g₁ r₁ => ?_)
    exact spliced_evs r (st.grow g₁) fun k₂ s₂ vs g₂ r₂ => hq k₂ s₂ _ (g₁.trans g₂) (.cons (r₁.mono g₂.ext) r₂)

theorem wpAny_mono' {α : Type} {M : Model} {A : Around} {t : Sem α} {Q Q' : α → Shared → Prop} {E : Value → Shared → Prop} {s : Shared} (h : wpAny M A t Q E s) (hQ : ∀ a s, Q a s → Q' a s) : wpAny M A t Q' E s :=
  wpAny_mono h hQ fun _ _ e => e

theorem ev_int {i : Int} {n : Nat} {pos : Pos} : Ev G Γ σ (.Constant (.int i) n pos) (.int i) := fun k o s Q E st hq =>
  wpAny_Constant_int (hq k _ _ (Gr.keeps st.ok (fun _ _ e => e) V) (.int i _))
theorem ev_str {x : Str} {n : Nat} {pos : Pos} : Ev G Γ σ (.Constant (.str x) n pos) (.str x) := fun k o s Q E st hq =>
  Calls.Constant_str (hq k _ _ (Gr.keeps st.ok (fun _ _ e => e) V) (.str x _))
theorem ev_bool {b : Bool} {n : Nat} {pos : Pos} : Ev G Γ σ (.Constant (.bool b) n pos) (.bool b) := fun k o s Q E st hq =>
  wpAny_pure (hq k s _ (Gr.refl st.ok V) (.bool b))
theorem ev_flt {x : UInt64} {n : Nat} {pos : Pos} : Ev G Γ σ (.Constant (.float x) n pos) (.flt x) := fun k o s Q E st hq => by
  show wpAny _ _ (mkFloat x) _ _ _
  exact fun _ _ _ => hq k _ _ (Gr.keeps st.ok (fun _ _ e => e) V) (.flt x _ st.ok.tk)

/-- a name's value -/
theorem load_var {k o s} {x : Str} {V : Vl} {Q : Value → Shared → Prop} {E} (st : St G Γ σ k o s) (hx : σ.lookup x = some V) (hq : ∀ v, VRd k o s.heap x v V → Q v s)
    (hn : (x == ("__classdict__" : Str)) = false := by decide) : wpAny G.M Γ.A (loadName Γ.env x) Q E s := by
  obtain ⟨m, hns, hv⟩ := st.vars
  obtain ⟨v, hw, hr⟩ := hv x V hx
  rcases hw with ⟨hl, hm⟩ | ⟨hk, c, hc, hcell⟩
  · exact wpAny_loadName_local st.fn hl hns hm (hq v hr)
  · rcases hk with hk | hk
    · exact wpAny_loadName_cell st.fn hk hc hcell (hq v hr)
    · exact wpAny_loadName_free st.fn hk hc hcell (hq v hr) hn
theorem ev_name {x : Str} {pos : Pos} {d : D} (hx : σ.lookup x = some (.dat d)) (hd : (x == ("__debug__" : Str)) = false := by decide) (hn : (x == ("__classdict__" : Str)) = false := by decide) : Ev G Γ σ (.Name x pos) d :=
  fun k o s Q E st hq => wpAny_Name (load_var st hx (fun v r => hq k s v (Gr.refl st.ok V) r) hn) hd

theorem ev_binop {l r : Expr} {op : Operator} {pos : Pos} {a b c : D} (hl : Ev G Γ σ l a) (hr : Ev G Γ σ r b) (hop : Act G Γ.n (fun vs => binaryOp op (vs.getD 0 .none) (vs.getD 1 .none)) [a, b] c) :
    Ev G Γ σ (.BinOp l op r pos) c := fun k o s Q E st hq => by
  refine wpAny_BinOp (hl k o s _ E st fun k₁ s₁ v₁ g₁ r₁ => hr k₁ o s₁ _ E (st.grow g₁) fun k₂ s₂ v₂ g₂ r₂ => ?_)
  exact hop Γ.A k₂ s₂ [v₁, v₂] Q E st.rm (st.ok.grow (g₁.trans g₂)) (.cons (r₁.mono g₂.ext) (.cons r₂ .nil)) fun k₃ s₃ v₃ g₃ r₃ => hq k₃ s₃ v₃ ((g₁.trans g₂).trans g₃) r₃

theorem ev_unop {x : Expr} {op : UnaryOp} {pos : Pos} {a c : D} (hl : Ev G Γ σ x a) (hop : Act G Γ.n (fun vs => unaryOp op (vs.getD 0 .none)) [a] c) :
    Ev G Γ σ (.UnaryOp op x pos) c := fun k o s Q E st hq => by
  refine wpAny_UnaryOp (hl k o s _ E st fun k₁ s₁ v₁ g₁ r₁ => ?_)
  exact hop Γ.A k₁ s₁ [v₁] Q E st.rm (st.ok.grow g₁) (.cons r₁ .nil) fun k₃ s₃ v₃ g₃ r₃ => hq k₃ s₃ v₃ (g₁.trans g₃) r₃

theorem ev_cmp {l r : Expr} {op : CmpOp} {pos : Pos} {a b c : D} (hl : Ev G Γ σ l a) (hr : Ev G Γ σ r b) (hop : Act G Γ.n (fun vs => compareOp op (vs.getD 0 .none) (vs.getD 1 .none)) [a, b] c)
    (hm : behindInMarks op r = false := by with_unfolding_all rfl) : Ev G Γ σ (.Compare l [op] [r] pos) c := fun k o s Q E st hq => by
  refine wpAny_Compare1 (hl k o s _ E st fun k₁ s₁ v₁ g₁ r₁ => hr k₁ o s₁ _ E (st.grow g₁) fun k₂ s₂ v₂ g₂ r₂ => ?_) hm
  exact hop Γ.A k₂ s₂ [v₁, v₂] Q E st.rm (st.ok.grow (g₁.trans g₂)) (.cons (r₁.mono g₂.ext) (.cons r₂ .nil)) fun k₃ s₃ v₃ g₃ r₃ => hq k₃ s₃ v₃ ((g₁.trans g₂).trans g₃) r₃

theorem tv_cmp {l r : Expr} {op : CmpOp} {pos : Pos} {a b : D} {c : Bool} (hl : Ev G Γ σ l a) (hr : Ev G Γ σ r b) (hop : Act G Γ.n (fun vs => compareOp op (vs.getD 0 .none) (vs.getD 1 .none)) [a, b] (.bool c))
    (hm : behindInMarks op r = false := by with_unfolding_all rfl) : Tv G Γ σ (.Compare l [op] [r] pos) c := fun k o s Q E st hq => by
  refine wpAny_isTrue_Compare1 (hl k o s _ E st fun k₁ s₁ v₁ g₁ r₁ => hr k₁ o s₁ _ E (st.grow g₁) fun k₂ s₂ v₂ g₂ r₂ => ?_) hm
  refine hop Γ.A k₂ s₂ [v₁, v₂] _ E st.rm (st.ok.grow (g₁.trans g₂)) (.cons (r₁.mono g₂.ext) (.cons r₂ .nil)) fun k₃ s₃ v₃ g₃ r₃ => ?_
  cases r₃
  exact wpAny_truthy_bool (hq k₃ s₃ ((g₁.trans g₂).trans g₃))

theorem tv_and {x y : Expr} {pos : Pos} {a b : Bool} (hx : Tv G Γ σ x a) (hy : a = true → Tv G Γ σ y b) : Tv G Γ σ (.BoolOp .And [x, y] pos) (a && b) := fun k o s Q E st hq => by
  show wpAny _ _ (allTrue .And [x, y] Γ.env) _ _ _
  rw [allTrue]
  refine wpAny_bind (hx k o s _ E st fun k₁ s₁ g₁ => ?_)
  cases a with
  | false => exact wpAny_pure (hq k₁ s₁ g₁)
  | true =>
    show wpAny _ _ (allTrue .And [y] Γ.env) _ _ _
    rw [allTrue]
    refine wpAny_bind (hy rfl k₁ o s₁ _ E (st.grow g₁) fun k₂ s₂ g₂ => ?_)
    cases b with
    | false => exact wpAny_pure (hq k₂ s₂ (g₁.trans g₂))
    | true => exact wpAny_pure (hq k₂ s₂ (g₁.trans g₂))
theorem tv_or {x y : Expr} {pos : Pos} {a b : Bool} (hx : Tv G Γ σ x a) (hy : a = false → Tv G Γ σ y b) : Tv G Γ σ (.BoolOp .Or [x, y] pos) (a || b) := fun k o s Q E st hq => by
  show wpAny _ _ (allTrue .Or [x, y] Γ.env) _ _ _
  rw [allTrue]
  refine wpAny_bind (hx k o s _ E st fun k₁ s₁ g₁ => ?_)
  cases a with
  | true => exact wpAny_pure (hq k₁ s₁ g₁)
  | false =>
    show wpAny _ _ (allTrue .Or [y] Γ.env) _ _ _
    rw [allTrue]
    refine wpAny_bind (hy rfl k₁ o s₁ _ E (st.grow g₁) fun k₂ s₂ g₂ => ?_)
    cases b with
    | false => exact wpAny_pure (hq k₂ s₂ (g₁.trans g₂))
    | true => exact wpAny_pure (hq k₂ s₂ (g₁.trans g₂))

theorem ev_tuple {es : List Expr} {ds : List D} {n : Nat} {pos : Pos} (h : Evs G Γ σ es ds) (hsz : ds.length ≤ sizeLine) : Ev G Γ σ (.Tuple es n pos) (.tup ds) := fun k o s Q E st hq => by
  refine Tuple_ (spliced_evs h st fun k₁ s₁ vs g₁ r₁ => ?_)
  refine wpAny_newObj_type ?_ (by show vs.toArray.size ≤ sizeLine; rw [List.size_toArray, r₁.length]; exact hsz)
  have ok₁ := st.ok.grow g₁
  have g₂ := Gr.keepsPut (t := s₁.toks) ok₁ (h' := s₁.heap.push (seqO "tuple" vs.toArray 0)) (fun b o e => Heap.get?_push_of_some _ e) (get?_size _) (Heap.get?_push_size _ rfl) V
  exact hq _ _ _ (g₁.trans g₂) (.tup (Part.put_self ..) (r₁.mono g₂.ext))
theorem ev_list {es : List Expr} {ds : List D} {pos : Pos} (h : Evs G Γ σ es ds) (hsz : ds.length ≤ sizeLine) : Ev G Γ σ (.List es pos) (.list ds) := fun k o s Q E st hq => by
  refine List_ (spliced_evs h st fun k₁ s₁ vs g₁ r₁ => ?_)
  refine wpAny_newObj_type ?_ (by show vs.toArray.size ≤ sizeLine; rw [List.size_toArray, r₁.length]; exact hsz)
  have ok₁ := st.ok.grow g₁
  have g₂ := Gr.keepsPut (t := s₁.toks) ok₁ (h' := s₁.heap.push (seqO "list" vs.toArray 0)) (fun b o e => Heap.get?_push_of_some _ e) (get?_size _) (Heap.get?_push_size _ rfl) V
  exact hq _ _ _ (g₁.trans g₂) (.list (Part.put_self ..) (r₁.mono g₂.ext))
end

end Mine

namespace Mine
open PySem PySem.Calls PySem.Spec PyProof.Rows
set_option maxRecDepth 100000
set_option linter.unusedVariables false
set_option linter.unusedSimpArgs false

/-- a text by its signs' numbers -/
noncomputable abbrev S (l : List Nat) : Str := ⟨l.toArray⟩
theorem S_length (l : List Nat) : (S l).length = l.length := by simp [Str.length]
theorem S_app (a b : List Nat) : S a ++ S b = S (a ++ b) := by
  show Str.append (S a) (S b) = _
  simp [Str.append]
theorem S_cps (l : List Nat) : (S l).cps.toList = l := by simp [S]
theorem S_of (x : Str) : x = S x.cps.toList := by cases x; simp [S]

section
variable {G : Gd} {n : Nat}

theorem Act.mono {t : List Value → Sem Value} {ds : List D} {d : D} {m : Nat} (h : Act G n t ds d) (hm : n ≤ m) : Act G m t ds d :=
  fun A k s vs Q E rm ok r hq => h A k s vs Q E (rm.less hm) ok r hq

/-- an act of two data that makes nothing on the heap -/
theorem act1 {t : List Value → Sem Value} {a d : D} (h : ∀ A k s v Q E, Rm A n → Ok G k s → Rd k v a → (∀ r tk, Rd k r d → Q r { s with toks := tk }) → wpAny G.M A (t [v]) Q E s) : Act G n t [a] d := by
  intro A k s vs Q E rm ok r hq
  cases r with
  | cons h1 r1 =>
    cases r1
    refine wpAny_with_toks (n := 1) ok.tk ?_
    exact h A k s _ _ _ rm ok h1 fun r tk hr ht => hq k _ r (Gr.keeps ok (fun _ _ e => e) V ht) hr
theorem act2 {t : List Value → Sem Value} {a b d : D} (h : ∀ A k s v u Q E, Rm A n → Ok G k s → Rd k v a → Rd k u b → (∀ r tk, Rd k r d → Q r { s with toks := tk }) → wpAny G.M A (t [v, u]) Q E s) : Act G n t [a, b] d := by
  intro A k s vs Q E rm ok r hq
  cases r with
  | cons h1 r1 =>
    cases r1 with
    | cons h2 r2 =>
      cases r2
      refine wpAny_with_toks (n := 1) ok.tk ?_
      exact h A k s _ _ _ _ rm ok h1 h2 fun r tk hr ht => hq k _ r (Gr.keeps ok (fun _ _ e => e) V ht) hr

-- ints
theorem add_ii (a b : Int) : Act G n (fun vs => binaryOp .Add (vs.getD 0 .none) (vs.getD 1 .none)) [.int a, .int b] (.int (a + b)) := act2 fun A k s v u Q E rm ok h1 h2 hq => by
  cases h1; cases h2; exact P.add_int (hq _ _ (.int _ _))
theorem sub_ii (a b : Int) : Act G n (fun vs => binaryOp .Sub (vs.getD 0 .none) (vs.getD 1 .none)) [.int a, .int b] (.int (a - b)) := act2 fun A k s v u Q E rm ok h1 h2 hq => by
  cases h1; cases h2; exact P.sub_int (hq _ _ (.int _ _))
theorem mul_ii (a b : Int) (hm : IntMulOk a b) : Act G n (fun vs => binaryOp .Mult (vs.getD 0 .none) (vs.getD 1 .none)) [.int a, .int b] (.int (a * b)) := act2 fun A k s v u Q E rm ok h1 h2 hq => by
  cases h1; cases h2; exact P.mul_int (hq _ _ (.int _ _)) hm
theorem mod_ii (a b : Int) (hb : 0 < b) : Act G n (fun vs => binaryOp .Mod (vs.getD 0 .none) (vs.getD 1 .none)) [.int a, .int b] (.int (a % b)) := act2 fun A k s v u Q E rm ok h1 h2 hq => by
  cases h1; cases h2
  refine PyProof.Rows.mod_int (by omega) ?_
  rw [Int.fmod_eq_emod_of_nonneg a (by omega)]
  exact hq _ _ (.int _ _)
theorem neg_i (a : Int) : Act G n (fun vs => unaryOp .USub (vs.getD 0 .none)) [.int a] (.int (-a)) := act1 fun A k s v Q E rm ok h1 hq => by
  cases h1; exact P.neg_int (hq _ _ (.int _ _))
theorem eq_ii (a b : Int) : Act G n (fun vs => compareOp .Eq (vs.getD 0 .none) (vs.getD 1 .none)) [.int a, .int b] (.bool (a == b)) := act2 fun A k s v u Q E rm ok h1 h2 hq => by
  cases h1; cases h2; exact P.eq_int (hq _ s.toks (.bool _))
theorem lt_ii (a b : Int) : Act G n (fun vs => compareOp .Lt (vs.getD 0 .none) (vs.getD 1 .none)) [.int a, .int b] (.bool (decide (a < b))) := act2 fun A k s v u Q E rm ok h1 h2 hq => by
  cases h1; cases h2; exact P.lt_int (hq _ s.toks (.bool _))
theorem gt_ii (a b : Int) : Act G n (fun vs => compareOp .Gt (vs.getD 0 .none) (vs.getD 1 .none)) [.int a, .int b] (.bool (decide (a > b))) := act2 fun A k s v u Q E rm ok h1 h2 hq => by
  cases h1; cases h2; exact P.gt_int (hq _ s.toks (.bool _))
theorem ge_ii (a b : Int) : Act G n (fun vs => compareOp .GtE (vs.getD 0 .none) (vs.getD 1 .none)) [.int a, .int b] (.bool (decide (a ≥ b))) := act2 fun A k s v u Q E rm ok h1 h2 hq => by
  cases h1; cases h2; exact P.ge_int (hq _ s.toks (.bool _))
theorem isnot_bb (a b : Bool) : Act G n (fun vs => compareOp .IsNot (vs.getD 0 .none) (vs.getD 1 .none)) [.bool a, .bool b] (.bool (a != b)) := act2 fun A k s v u Q E rm ok h1 h2 hq => by
  cases h1; cases h2; exact isnot_bool (hq _ s.toks (.bool _))

-- texts
theorem add_ss (a b : List Nat) (h : a.length + b.length ≤ sizeLine) : Act G n (fun vs => binaryOp .Add (vs.getD 0 .none) (vs.getD 1 .none)) [.str (S a), .str (S b)] (.str (S (a ++ b))) :=
  act2 fun A k s v u Q E rm ok h1 h2 hq => by
    cases h1; cases h2
    refine PyProof.Rows.add_str (fun t' tk => ?_) (by rw [S_length, S_length]; exact h)
    rw [S_app]; exact hq _ _ (.str _ _)
theorem eq_ss (a b : List Nat) : Act G n (fun vs => compareOp .Eq (vs.getD 0 .none) (vs.getD 1 .none)) [.str (S a), .str (S b)] (.bool (a == b)) := act2 fun A k s v u Q E rm ok h1 h2 hq => by
  cases h1; cases h2
  refine P.eq_str ?_
  rw [S_cps, S_cps]; exact hq _ s.toks (.bool _)
theorem ne_ss (a b : List Nat) : Act G n (fun vs => compareOp .NotEq (vs.getD 0 .none) (vs.getD 1 .none)) [.str (S a), .str (S b)] (.bool (a != b)) := act2 fun A k s v u Q E rm ok h1 h2 hq => by
  cases h1; cases h2
  refine P.ne_str ?_
  rw [S_cps, S_cps]; exact hq _ s.toks (.bool _)

noncomputable def isIn (y x : List Nat) : Bool := !(Builtin.Str.occurrences (S x) (S y) 0 (S x).length 1).isEmpty
theorem in_ss (y x : List Nat) : Act G n (fun vs => compareOp .In (vs.getD 0 .none) (vs.getD 1 .none)) [.str (S y), .str (S x)] (.bool (isIn y x)) := act2 fun A k s v u Q E rm ok h1 h2 hq => by
  cases h1; cases h2
  exact P.in_str (hq _ s.toks (.bool _))
theorem notin_ss (y x : List Nat) : Act G n (fun vs => compareOp .NotIn (vs.getD 0 .none) (vs.getD 1 .none)) [.str (S y), .str (S x)] (.bool (!isIn y x)) := act2 fun A k s v u Q E rm ok h1 h2 hq => by
  cases h1; cases h2
  exact P.notIn_str (hq _ s.toks (.bool _))

theorem len_s (a : List Nat) (h : a.length ≤ sizeLine) : Act G n (fun vs => call (.builtin "len") vs) [.str (S a)] (.int a.length) := act1 fun A k s v Q E rm ok h1 hq => by
  cases h1
  have hs : sizeLine = 16777216 := sizeLine_eq
  refine P.len_str (by rw [S_length]; omega) ?_
  rw [S_length]; exact hq _ _ (.int _ _)

-- lists
theorem isL_of {k : Part} {s : Shared} (ok : Ok G k s) {v : Value} {ds : List D} (r : Rd k v (.list ds)) : ∃ a vs m, v = .ref a ∧ PySem.IsL s.heap a vs.toArray m ∧ Rds k vs ds := by
  cases r with
  | list h r => exact ⟨_, _, _, rfl, ok.sub _ _ h, r⟩

theorem len_l (ds : List D) (h : ds.length ≤ sizeLine) : Act G n (fun vs => call (.builtin "len") vs) [.list ds] (.int ds.length) := act1 fun A k s v Q E rm ok h1 hq => by
  obtain ⟨a, vs, m, rfl, hl, hr⟩ := isL_of ok h1
  have hs : sizeLine = 16777216 := sizeLine_eq
  have hlen := hr.length
  refine PySem.Calls.call_len_list hl.isList (by rw [List.size_toArray, hlen]; omega) ?_
  rw [List.size_toArray, hlen]
  exact hq _ _ (.int _ _)

theorem add_ll (xs ys : List D) (h : xs.length + ys.length ≤ sizeLine) : Act G n (fun vs => binaryOp .Add (vs.getD 0 .none) (vs.getD 1 .none)) [.list xs, .list ys] (.list (xs ++ ys)) := by
  intro A k s vs Q E rm ok r hq
  cases r with
  | cons h1 r1 =>
    cases r1 with
    | cons h2 r2 =>
      cases r2
      obtain ⟨a, vs, m, rfl, hl, hr⟩ := isL_of ok h1
      obtain ⟨b, us, m', rfl, hb, hs⟩ := isL_of ok h2
      refine P.add_list hl hb ?_ (by rw [List.size_toArray, List.size_toArray, hr.length, hs.length]; exact h)
      have g := Gr.keepsPut (t := s.toks) ok (h' := s.heap.push (seqO "list" (vs.toArray ++ us.toArray) 0)) (fun b o e => Heap.get?_push_of_some _ e) (get?_size _) (Heap.get?_push_size _ rfl) V
      refine hq _ _ _ g (.list (vs := vs ++ us) (n := 0) (by rw [Part.put_self]; simp) ((hr.append hs).mono g.ext))

theorem item_l (ds : List D) (i : Nat) (d : D) (h : ds[i]? = some d) (hsz : ds.length ≤ sizeLine) : Act G n (fun vs => getItem (vs.getD 0 .none) (vs.getD 1 .none)) [.list ds, .int i] d := act2 fun A k s v u Q E rm ok h1 h2 hq => by
  obtain ⟨a, vs, m, rfl, hl, hr⟩ := isL_of ok h1
  cases h2
  obtain ⟨x, hx, hrx⟩ := hr.get' h
  have hs : sizeLine = 16777216 := sizeLine_eq
  have hi : i < ds.length := by
    rcases Nat.lt_or_ge i ds.length with q | q
    · exact q
    · rw [List.getElem?_eq_none q] at h; cases h
  exact PySem.wpAny_getItem_list hl.isList (by omega) (by omega) (by simpa using hx) (hq x s.toks hrx)
end
end Mine

namespace Mine
open PySem PySem.Calls PySem.Spec PyProof.Rows
set_option maxRecDepth 100000
set_option linter.unusedVariables false
set_option linter.unusedSimpArgs false

/-- what the frozen base says of the names -/
structure Base (G : Gd) : Prop where
  ns : ∀ h, G.kB.inH h → h.Ns mainGlobals G.mg
  bs : ∀ h, G.kB.inH h → h.Ns builtinsNs G.mb
  lim : ∀ h, G.kB.inH h → h.NoLimit

theorem Ok.baseIn {G : Gd} {k : Part} {s : Shared} (ok : Ok G k s) : G.kB.inH s.heap := fun b o e => ok.sub b o (ok.base b o e)

section
variable {G : Gd} {Γ : Cx} {σ : Sto}

/-- the name stands for the value v -/
noncomputable def Fv (G : Gd) (Γ : Cx) (σ : Sto) (f : Expr) (v : Value) : Prop :=
  ∀ k o s Q E, St G Γ σ k o s → Q v s → wpAny G.M Γ.A (eval f Γ.env) Q E s

theorem fv_global (B : Base G) {f : Str} {p : Pos} {v : Value} (hk : Γ.env.kindOf f = some .globalImplicit) (h : G.mg f = some v) (hd : (f == ("__debug__" : Str)) = false := by decide) : Fv G Γ σ (.Name f p) v :=
  fun k o s Q E st hq => Calls.Name_function_global st.fn hk (Calls.loadGlobal_global (by rw [st.gl]; exact B.ns _ st.ok.baseIn) h hq) hd
theorem fv_builtin (B : Base G) {f : Str} {p : Pos} {v : Value} (hk : Γ.env.kindOf f = some .globalImplicit) (h0 : G.mg f = none) (h : G.mb f = some v) (hd : (f == ("__debug__" : Str)) = false := by decide) : Fv G Γ σ (.Name f p) v :=
  fun k o s Q E st hq => Calls.Name_function_global st.fn hk (Calls.loadGlobal_builtin (by rw [st.gl]; exact B.ns _ st.ok.baseIn) h0 (by rw [st.bl]; exact B.bs _ st.ok.baseIn) h hq) hd

theorem ev_global {f : Expr} {v : Value} {d : D} (h : Fv G Γ σ f v) (hr : ∀ k, Rd k v d) : Ev G Γ σ f d :=
  fun k o s Q E st hq => h k o s Q E st (hq k s v (Gr.refl st.ok V) (hr k))

theorem plain_evs {pos : Pos} {env : Env} : ∀ {es : List Expr} {ds : List D}, Evs G Γ σ es ds → (backTo pos (starEach es env)).any (·.1) = false
  | _, _, .nil => rfl
  | _, _, .cons he h r => by rw [he]; exact plain_evs (pos := pos) r

theorem evalArgs_evs {f : Value} {pos : Pos} {es : List Expr} {ds : List D} (hs : Evs G Γ σ es ds) {k o s} {Q : Args → Shared → Prop} {E} (st : St G Γ σ k o s)
    (h : ∀ k' s' vs, Gr V k s k' s' → Rds k' vs ds → Q ⟨vs, []⟩ s') : wpAny G.M Γ.A (evalArgs f true (backTo pos (starEach es Γ.env)) []) Q E s := by
  cases hs with
  | nil => exact PySem.evalArgs_none (h k s [] (Gr.refl st.ok V) .nil)
  | cons he h1 r =>
    have := spliced_evs (pos := pos) (.cons he h1 r) (Q := fun vs s' => Q ⟨vs, []⟩ s') (E := E) st h
    rw [he] at this ⊢
    exact Calls.evalArgs_plain this

theorem call_b {id : String} {f : Str} {p pos : Pos} {es : List Expr} {ds : List D} {d : D} (hf : Fv G Γ σ (.Name f p) (.builtin id)) (hs : Evs G Γ σ es ds)
    (h : Act G Γ.n (fun vs => call (.builtin id) vs) ds d) : Ev G Γ σ (.Call (.Name f p) es [] pos) d := fun k o s Q E st hq => by
  refine wpAny_Call_Name_kw (hf k o s _ E st ?_)
  refine Calls.callWith_builtin (plain_evs hs) (evalArgs_evs hs st fun k₁ s₁ vs g₁ r₁ => ?_)
  exact h Γ.A k₁ s₁ vs Q E st.rm (st.ok.grow g₁) r₁ fun k₂ s₂ v g₂ r₂ => hq k₂ s₂ v (g₁.trans g₂) r₂
theorem call_t {id : String} {f : Str} {p pos : Pos} {es : List Expr} {ds : List D} {d : D} (hf : Fv G Γ σ (.Name f p) (.type id)) (hs : Evs G Γ σ es ds)
    (h : Act G Γ.n (fun vs => call (.type id) vs) ds d) : Ev G Γ σ (.Call (.Name f p) es [] pos) d := fun k o s Q E st hq => by
  refine wpAny_Call_Name_kw (hf k o s _ E st ?_)
  refine PySem.callWith_type (plain_evs hs) (evalArgs_evs hs st fun k₁ s₁ vs g₁ r₁ => ?_)
  exact h Γ.A k₁ s₁ vs Q E st.rm (st.ok.grow g₁) r₁ fun k₂ s₂ v g₂ r₂ => hq k₂ s₂ v (g₁.trans g₂) r₂
theorem call_f {a : Addr} {ob : Obj} {fd : FuncData} {f : Str} {p pos : Pos} {es : List Expr} {ds : List D} {d : D} (hf : Fv G Γ σ (.Name f p) (.ref a)) (hk : G.kB a = some ob) (hd : ob.data = .func fd) (hs : Evs G Γ σ es ds)
    (h : Act G Γ.n (fun vs => call (.ref a) vs) ds d) : Ev G Γ σ (.Call (.Name f p) es [] pos) d := fun k o s Q E st hq => by
  refine wpAny_Call_Name_kw (hf k o s _ E st ?_)
  refine Calls.callWith_function (o := ob) (fd := fd) (evalArgs_evs hs st fun k₁ s₁ vs g₁ r₁ => ?_)
  have ok₁ := st.ok.grow g₁
  refine ⟨⟨ok₁.baseIn _ _ hk, hd⟩, ?_⟩
  exact h Γ.A k₁ s₁ vs Q E st.rm ok₁ r₁ fun k₂ s₂ v g₂ r₂ => hq k₂ s₂ v (g₁.trans g₂) r₂

/-- the kinds of data that a method is asked of -/
noncomputable def TypeD (G : Gd) (a : D) (T : String) : Prop := ∀ (k : Part) (s : Shared) (v : Value), Ok G k s → Rd k v a → s.TypeIs v T ∧ ∀ x, v = .ref x → ∃ ob, s.heap.get? x = some ob ∧ ob.dict = none
theorem type_s (x : Str) : TypeD G (.str x) "str" := fun k s v ok r => by cases r; exact ⟨typeIs_str _ _ _, fun _ e => nomatch e⟩
theorem type_l (ds : List D) : TypeD G (.list ds) "list" := fun k s v ok r => by
  cases r with
  | list h r => exact ⟨⟨_, ok.sub _ _ h, rfl⟩, fun x e => by cases e; exact ⟨_, ok.sub _ _ h, rfl⟩⟩
theorem type_t (ds : List D) : TypeD G (.tup ds) "tuple" := fun k s v ok r => by
  cases r with
  | tup h r => exact ⟨⟨_, ok.sub _ _ h, rfl⟩, fun x e => by cases e; exact ⟨_, ok.sub _ _ h, rfl⟩⟩

theorem ev_meth {T id : String} {o : Expr} {name : Str} {apos pos : Pos} {es : List Expr} {a : D} {ds : List D} {d : D} (ho : Ev G Γ σ o a) (hT : TypeD G a T) (pa : PlainAttrs T) (slot : Slot T name id)
    (hty : typeOf (.builtin id) = pure (.type "method_descriptor")) (hs : Evs G Γ σ es ds) (h : Act G Γ.n (fun vs => call (.builtin id) vs) (a :: ds) d)
    (hbase : attributeBase o name Γ.env (eval o Γ.env) = eval o Γ.env)
    (hfew : ((backTo pos (starEach es Γ.env)).all (fun x => !x.1) && (backToKw pos (keywordEach [] Γ.env)).all (fun x => x.1.isSome)
      && decide (es.length + ([] : List Keyword).length + (if ([] : List Keyword).isEmpty then 0 else 1) < 30)) = true)
    (hline : (apos.endLine == pos.line) = true) : Ev G Γ σ (.Call (.Attribute o name apos) es [] pos) d := fun k ow s Q E st hq => by
  refine wpAny_Call_method hbase hfew hline pa slot hty (ho k ow s _ E st fun k₀ s₀ v₀ g₀ r₀ => ?_)
  have st₀ := st.grow g₀
  obtain ⟨t1, t2⟩ := hT k₀ s₀ v₀ st₀.ok r₀
  refine ⟨t1, t2, ?_⟩
  refine Calls.callWith_builtin (plain_evs hs) (evalArgs_evs hs st₀ fun k₁ s₁ vs g₁ r₁ => ?_)
  exact h Γ.A k₁ s₁ (v₀ :: vs) Q E st.rm (st₀.ok.grow g₁) (.cons (r₀.mono g₁.ext) r₁) fun k₂ s₂ v g₂ r₂ => hq k₂ s₂ v ((g₀.trans g₁).trans g₂) r₂

/-- an item by an index that is no slice -/
theorem ev_item {T id : String} {value slice : Expr} {pos : Pos} {a b c : D} (hv : Ev G Γ σ value a) (hi : Ev G Γ σ slice b) (hT : TypeD G a T) (hl : typeLookup (.type T) "__getitem__" = pure (some (.builtin id)))
    (h : Act G Γ.n (fun vs => getItem (vs.getD 0 .none) (vs.getD 1 .none)) [a, b] c) (hs : ∀ o i, subscripted slice false o i = operate [o, i] (getItem o i)) : Ev G Γ σ (.Subscript value slice pos) c := fun k ow s Q E st hq => by
  rw [eval_Subscript]
  refine wpAny_bind (hv k ow s _ E st fun k₁ s₁ v₁ g₁ r₁ => wpAny_bind (wpAny_holding (hi k₁ ow s₁ _ E (st.grow g₁) fun k₂ s₂ v₂ g₂ r₂ => wpAny_bind (wpAny_standAt ?_))))
  have ok₂ := st.ok.grow (g₁.trans g₂)
  obtain ⟨t1, _⟩ := hT k₂ s₂ v₁ ok₂ (r₁.mono g₂.ext)
  have fin : wpAny G.M Γ.A (operate [v₁, v₂] (getItem v₁ v₂)) (fun r s₃ => wpAny G.M Γ.A (letTemporaryGo value v₁ r >>= fun _ => pure r) Q E s₃) E s₂ :=
    wpAny_operating (h Γ.A k₂ s₂ [v₁, v₂] _ E st.rm ok₂ (.cons (r₁.mono g₂.ext) (.cons r₂ .nil)) fun k₃ s₃ v₃ g₃ r₃ => wpAny_bind (wpAny_letTemporaryGo (wpAny_pure (hq k₃ s₃ v₃ ((g₁.trans g₂).trans g₃) r₃))))
  refine wpAny_bind ?_
  unfold getitemInPython
  refine wpAny_bind (wpAny_specialOf t1 hl (wpAny_pure ?_))
  rw [hs]
  exact wpAny_bind fin

/-- the parts of a slice -/
inductive Part? (G : Gd) (Γ : Cx) (σ : Sto) : Option Expr → Option Int → Prop
  | none : Part? G Γ σ none none
  | some {e : Expr} {i : Int} (h : Ev G Γ σ e (.int i)) : Part? G Γ σ (some e) (some i)
noncomputable def optV : Option Int → Value → Prop
  | none, v => v = .none
  | some i, v => ∃ t, v = .int i t
theorem part_ev {x : Option Expr} {i : Option Int} (h : Part? G Γ σ x i) {k o s} {Q : Value → Shared → Prop} {E} (st : St G Γ σ k o s) (hq : ∀ k' s' v, Gr V k s k' s' → optV i v → Q v s') :
    wpAny G.M Γ.A (evalPart x Γ.env) Q E s := by
  cases h with
  | none => exact wpAny_pure (hq k s _ (Gr.refl st.ok V) rfl)
  | some h => exact h k o s Q E st fun k' s' v g r => by cases r; exact hq k' s' _ g ⟨_, rfl⟩

/-- what an item by a slice gives -/
noncomputable def ActSl (G : Gd) (n : Nat) (lo hi st : Option Int) (a d : D) : Prop :=
  ∀ (A : Around) (k : Part) (s : Shared) (v vl vu vs : Value) (sl : Addr) (Q : Value → Shared → Prop) (E : Value → Shared → Prop), Rm A n → Ok G k s → Rd k v a → s.heap.IsSliceOf sl vl vu vs → optV lo vl → optV hi vu → optV st vs →
    (∀ k' s' r, Gr V k s k' s' → Rd k' r d → Q r s') → wpAny G.M A (getItem v (.ref sl)) Q E s

theorem ev_slice {T id : String} {value : Expr} {lo hi stp : Option Expr} {p pos : Pos} {l u t : Option Int} {a c : D} (hv : Ev G Γ σ value a) (hl : Part? G Γ σ lo l) (hu : Part? G Γ σ hi u) (hst : Part? G Γ σ stp t)
    (hT : TypeD G a T) (hlk : typeLookup (.type T) "__getitem__" = pure (some (.builtin id))) (h : ActSl G Γ.n l u t a c) : Ev G Γ σ (.Subscript value (.Slice lo hi stp p) pos) c := fun k ow s Q E st hq => by
  rw [eval_Subscript]
  refine wpAny_bind (hv k ow s _ E st fun k₁ s₁ v₁ g₁ r₁ => wpAny_bind (wpAny_holding (wpAny_Slice (part_ev hl (st.grow g₁) fun k₂ s₂ vl g₂ rl => part_ev hu (st.grow (g₁.trans g₂)) fun k₃ s₃ vu g₃ ru =>
    part_ev hst (st.grow ((g₁.trans g₂).trans g₃)) fun k₄ s₄ vt g₄ rt => wpAny_bind (wpAny_standAt ?_)))))
  have G₄ := ((g₁.trans g₂).trans g₃).trans g₄
  have ok₄ := st.ok.grow G₄
  have g₅ := Gr.keeps (t := s₄.toks) ok₄ (h' := s₄.heap.push { cls := .type "slice", data := .fields #[vl, vu, vt] }) (fun b o e => Heap.get?_push_of_some _ e) V
  have ok₅ := ok₄.grow g₅
  have r₅ : Rd k₄ v₁ a := r₁.mono ((g₂.ext.trans g₃.ext).trans g₄.ext)
  obtain ⟨t1, _⟩ := hT k₄ _ v₁ ok₅ r₅
  have fin : wpAny G.M Γ.A (getItem v₁ (.ref s₄.heap.objs.size)) (fun r s₆ => wpAny G.M Γ.A (letTemporaryGo value v₁ r >>= fun _ => pure r) Q E s₆) E { s₄ with heap := s₄.heap.push { cls := .type "slice", data := .fields #[vl, vu, vt] } } :=
    h Γ.A k₄ _ v₁ vl vu vt _ _ E st.rm ok₅ r₅ (Heap.IsSliceOf.new ..) rl ru rt fun k₆ s₆ r g₆ r₆ => wpAny_bind (wpAny_letTemporaryGo (wpAny_pure (hq k₆ s₆ r ((G₄.trans g₅).trans g₆) r₆)))
  refine wpAny_bind ?_
  unfold getitemInPython
  refine wpAny_bind (wpAny_specialOf t1 hlk (wpAny_pure ?_))
  cases hst with
  | none => exact wpAny_bind (wpAny_operating fin)
  | some _ => exact wpAny_bind (wpAny_operating fin)
end
end Mine

namespace Mine
open PySem PySem.Calls PySem.Spec PyProof.Rows
set_option maxRecDepth 100000
set_option linter.unusedVariables false
set_option linter.unusedSimpArgs false

inductive Out where
  | next (σ : Sto)
  | ret (d : D)

noncomputable abbrev own (o : List (Str × Addr)) : List Addr := o.map (·.2)
/-- the growth over a statement: the frame's own things may turn -/
structure Grs (Γ : Cx) (k : Part) (o : List (Str × Addr)) (s : Shared) (k' : Part) (o' : List (Str × Addr)) (s' : Shared) : Prop where
  gr : Gr (Γ.mu ++ own o ++ V) k s k' s'
  ow : ∀ p ∈ o', p.2 ∈ own o ∨ s.heap.get? p.2 = none

theorem Grs.trans {Γ : Cx} {k k₁ k₂ : Part} {o o₁ o₂ : List (Str × Addr)} {s s₁ s₂ : Shared} (a : Grs Γ k o s k₁ o₁ s₁) (b : Grs Γ k₁ o₁ s₁ k₂ o₂ s₂) : Grs Γ k o s k₂ o₂ s₂ := by
  refine ⟨a.gr.comp b.gr fun q hq => ?_, fun p hp => ?_⟩
  · rcases List.mem_append.mp hq with h | h
    · rcases List.mem_append.mp h with h | h
      · exact .inl (List.mem_append.mpr (.inl (List.mem_append.mpr (.inl h))))
      · obtain ⟨p, hp, rfl⟩ := List.mem_map.mp h
        rcases a.ow p hp with h | h
        · exact .inl (List.mem_append.mpr (.inl (List.mem_append.mpr (.inr h))))
        · exact .inr h
    · exact .inl (List.mem_append.mpr (.inr h))
  · rcases b.ow p hp with h | h
    · obtain ⟨p', hp', e⟩ := List.mem_map.mp h
      rw [← e]; exact a.ow p' hp'
    · exact .inr (a.gr.none_of h)
theorem Grs.ofV {Γ : Cx} {k k' : Part} {o : List (Str × Addr)} {s s' : Shared} (g : Gr V k s k' s') : Grs Γ k o s k' o s' :=
  ⟨g.mono fun b hb => List.mem_append.mpr (.inr hb), fun p hp => .inl (List.mem_map_of_mem hp)⟩

noncomputable def Post (G : Gd) (Γ : Cx) (out : Out) (k : Part) (o : List (Str × Addr)) (s : Shared) (Q : Flow → Shared → Prop) : Prop := match out with
  | .next σ' => ∀ k' o' s', St G Γ σ' k' o' s' → Grs Γ k o s k' o' s' → Q .next s'
  | .ret d => ∀ k' o' s' v, Grs Γ k o s k' o' s' → Ok G k' s' → Rd k' v d → Q (.ret v) s'
noncomputable def Ex (G : Gd) (Γ : Cx) (σ : Sto) (body : List Stmt) (out : Out) : Prop :=
  ∀ k o s Q E, St G Γ σ k o s → Post G Γ out k o s Q → wpAny G.M Γ.A (execs body Γ.env) Q E s
noncomputable def Sx (G : Gd) (Γ : Cx) (σ : Sto) (st : Stmt) (out : Out) : Prop :=
  ∀ k o s Q E, St G Γ σ k o s → Post G Γ out k o s Q → wpAny G.M Γ.A (exec st Γ.env) Q E s

theorem Post.after {G : Gd} {Γ : Cx} {out : Out} {k k₁ : Part} {o o₁ : List (Str × Addr)} {s s₁ : Shared} {Q : Flow → Shared → Prop} (p : Post G Γ out k o s Q) (g : Grs Γ k o s k₁ o₁ s₁) : Post G Γ out k₁ o₁ s₁ Q := by
  cases out with
  | next σ' => exact fun k' o' s' st g' => p k' o' s' st (g.trans g')
  | ret d => exact fun k' o' s' v g' ok r => p k' o' s' v (g.trans g') ok r

section
variable {G : Gd} {Γ : Cx} {σ σ' : Sto} {out : Out}

theorem ex_nil : Ex G Γ σ [] (.next σ) := fun k o s Q E st p => wpAny_execs_nil (p k o s st (.ofV (Gr.refl st.ok V)))
theorem ex_cons {x : Stmt} {rest : List Stmt} (h : Sx G Γ σ x (.next σ')) (r : Ex G Γ σ' rest out) : Ex G Γ σ (x :: rest) out := fun k o s Q E st p =>
  wpAny_execs_cons (h k o s _ E st fun k₁ o₁ s₁ st₁ g₁ => r k₁ o₁ s₁ Q E st₁ (p.after g₁))
theorem ex_ret {x : Stmt} {rest : List Stmt} {d : D} (h : Sx G Γ σ x (.ret d)) : Ex G Γ σ (x :: rest) (.ret d) := fun k o s Q E st p =>
  wpAny_execs_cons (h k o s _ E st fun k₁ o₁ s₁ v g₁ ok r => p k₁ o₁ s₁ v g₁ ok r)

theorem sx_ret {e : Expr} {pos : Pos} {d : D} (h : Ev G Γ σ e d) : Sx G Γ σ (.Return (some e) pos) (.ret d) := fun k o s Q E st p =>
  wpAny_Return_some (h k o s _ E st fun k' s' v g r => p k' o s' v (.ofV g) (st.ok.grow g) r)
theorem sx_if {test : Expr} {body orelse : List Stmt} {pos : Pos} {b : Bool} (h : Tv G Γ σ test b) (ht : b = true → Ex G Γ σ body out) (hf : b = false → Ex G Γ σ orelse out) : Sx G Γ σ (.If test body orelse pos) out := fun k o s Q E st p =>
  wpAny_If (h k o s _ E st fun k' s' g => by
    cases b with
    | true => exact ht rfl k' o s' Q E (st.grow g) (p.after (.ofV g))
    | false => exact hf rfl k' o s' Q E (st.grow g) (p.after (.ofV g)))
theorem sx_assert {test : Expr} {msg : Option Expr} {pos : Pos} (h : Tv G Γ σ test true) : Sx G Γ σ (.Assert test msg pos) (.next σ) := fun k o s Q E st p =>
  wpAny_Assert_holds (h k o s _ E st fun k' s' g => ⟨rfl, p k' o s' (st.grow g) (.ofV g)⟩)

/-- where a name's value is kept -/
inductive Place (Γ : Cx) (x : Str) : Prop
  | loc (h : Γ.env.kindOf x = some .local)
  | cell (c : Addr) (h : Γ.env.kindOf x = some .cell) (hc : Γ.env.cells.lookup x = some c) (hm : c ∈ Γ.mu) (hl : c ≠ Γ.env.locals)

theorem lookup_upd {σ : Sto} {x y : Str} {v : Vl} : (upd σ x v).lookup y = if y = x then some v else σ.lookup y := by
  unfold upd
  rw [List.lookup_cons]
  by_cases h : y = x
  · subst h; simp
  · rw [if_neg h, show (y == x) = false from beq_eq_false_iff_ne.mpr h]

/-- a store -/
theorem store_vl {x : Str} {W : Vl} {v : Value} (hx : Place Γ x) {k o s} {Q : Unit → Shared → Prop} {E} (st : St G Γ σ k o s) (r : VRd k o s.heap x v W)
    (hq : ∀ s', St G Γ (upd σ x W) k o s' → Grs Γ k o s k o s' → (∀ a ob, a ∉ Γ.mu → s.heap.get? a = some ob → s'.heap.get? a = some ob) → Q () s') : wpAny G.M Γ.A (storeName Γ.env x v) Q E s := by
  obtain ⟨m, hns, hv⟩ := st.vars
  -- the common end: one object of the frame's own has turned
  have fin : ∀ (b : Addr) (h' : Heap) (tk : Nat) (m' : Str → Option Value), 0 < tk → b ∈ Γ.mu → Heap.SameBut b s.heap h' → h'.Ns Γ.env.locals m' → (∃ ob, h'.get? b = some ob ∧ notFields ob) →
      (∀ y c, Γ.env.cells.lookup y = some c → ∃ v, h'.IsCell c v) → (∀ y V, (upd σ x W).lookup y = some V → VarAt Γ.env k o h' m' y V) → Q () { s with heap := h', toks := tk } := by
    intro b h' tk m' htk hb hs hn' hob hcel hvar
    obtain ⟨hkb, ob₀, hob₀, hnf₀⟩ := st.mutk b hb
    have aw := st.ok.tab.away hob₀ hnf₀
    have keep : ∀ a ob, a ≠ b → s.heap.get? a = some ob → h'.get? a = some ob := fun a ob ha e => (hs.2 a ha).trans e
    have kin : k.inH h' := fun a ob e => keep a ob (fun q => by rw [q, hkb] at e; cases e) (st.ok.sub a ob e)
    have tab' : Tab h' := ⟨let ⟨ps, c1, c2⟩ := st.ok.tab.1; ⟨ps, c1.extBut hs.extBut (Ne.symm aw.2.1) (Ne.symm aw.2.2.2.1), ⟨let ⟨oc, vc, hoc, r⟩ := c2.1; ⟨oc, vc, keep _ _ (Ne.symm aw.2.1) hoc, r⟩, keep _ _ (Ne.symm aw.2.2.2.1) c2.2⟩⟩,
      let ⟨ps, c1, c2⟩ := st.ok.tab.2; ⟨ps, c1.extBut hs.extBut (Ne.symm aw.2.2.1) (Ne.symm aw.2.2.2.2), ⟨let ⟨oc, vc, hoc, r⟩ := c2.1; ⟨oc, vc, keep _ _ (Ne.symm aw.2.2.1) hoc, r⟩, keep _ _ (Ne.symm aw.2.2.2.2) c2.2⟩⟩⟩
    have ok' : Ok G k { s with heap := h', toks := tk } := ⟨st.ok.base, kin, st.ok.vol, st.ok.bare, tab', htk⟩
    refine hq _ ⟨ok', st.rm, st.fn, st.gl, st.bl, fun a ha => ?_, st.locm, ⟨m', hn', hvar⟩, fun p hp => ?_, st.ownd, hcel, st.celd⟩ ⟨⟨Part.le.refl k, kin, st.ok.vol, fun _ _ e => .inl e, fun a ob ha e => keep a ob (fun q => ha (by rw [q]; exact List.mem_append.mpr (.inl (List.mem_append.mpr (.inl hb))))) e, fun a ob e => ?_, rfl, st.ok.bare, tab', htk⟩, fun p hp => .inl (List.mem_map_of_mem hp)⟩ (fun a ob ha e => keep a ob (fun q => ha (q ▸ hb)) e)
    · obtain ⟨h1, ob, h2, h3⟩ := st.mutk a ha
      by_cases q : a = b
      · subst q; exact ⟨h1, hob⟩
      · exact ⟨h1, ob, keep a ob q h2, h3⟩
    · obtain ⟨h1, h2, ob, h3, h4⟩ := st.ownk p hp
      exact ⟨h1, h2, ob, keep _ ob (fun q => h2 (q ▸ hb)) h3, h4⟩
    · by_cases q : a = b
      · subst q; exact ⟨_, hob.choose_spec.1⟩
      · exact ⟨ob, keep a ob q e⟩
  -- the values of the other names
  have others : ∀ (b : Addr) (h' : Heap), b ∈ Γ.mu → Heap.SameBut b s.heap h' → ∀ y V v', VRd k o s.heap y v' V → VRd k o h' y v' V := fun b h' hb hs y V v' hr =>
    hr.move (Part.le.refl k) fun p hp ob e => (hs.2 _ (fun q => (st.ownk p hp).2.1 (by rw [q]; exact hb))).trans e
  cases hx with
  | loc hl =>
    refine wpAny_storeName_local hl hns (fun h' hn' hs => ?_) (by rw [st.fn]; rfl)
    refine fin Γ.env.locals h' (s.toks + 1) _ (Nat.succ_pos _) st.locm hs hn' (Heap.Ns.obj hn') (fun y c hc => ?_) fun y V' e => ?_
    · obtain ⟨v', oc, hoc, hd⟩ := st.cel y c hc
      refine ⟨v', oc, (hs.2 c fun q => ?_).trans hoc, hd⟩
      obtain ⟨ob, es, ep, ho, hd', _⟩ := hns
      rw [q, ho] at hoc; cases hoc; rw [hd] at hd'; cases hd'
    · rw [lookup_upd] at e
      by_cases hy : y = x
      · subst hy
        rw [if_pos rfl] at e; cases e
        exact ⟨v, .inl ⟨hl, by simp⟩, others _ _ st.locm hs y _ v r⟩
      · rw [if_neg hy] at e
        obtain ⟨v', hw, hr⟩ := hv y V' e
        refine ⟨v', hw.imp (fun ⟨a, b⟩ => ⟨a, by show (if y = x then _ else _) = _; rw [if_neg hy]; exact b⟩) (fun ⟨a, c, hc, oc, hoc, hd⟩ => ⟨a, c, hc, oc, (hs.2 c fun q => ?_).trans hoc, hd⟩), others _ _ st.locm hs y V' v' hr⟩
        obtain ⟨ob, es, ep, ho, hd', _⟩ := hns
        rw [q, ho] at hoc; cases hoc; rw [hd] at hd'; cases hd'
  | cell c hk hc hm hl =>
    obtain ⟨v₀, hv₀⟩ := st.cel x c hc
    refine wpAny_storeName_cell st.fn hk hc hv₀ fun h' hcell hs => ?_
    refine fin c h' s.toks m st.ok.tk hm hs (hns.sameBut hs (Ne.symm hl)) (let ⟨oc, hoc, hd⟩ := hcell; ⟨oc, hoc, fun vs q => by rw [hd] at q; cases q⟩) (fun y c' hc' => ?_) fun y V' e => ?_
    · by_cases q : c' = c
      · subst q; exact ⟨_, hcell⟩
      · obtain ⟨v', oc, hoc, hd⟩ := st.cel y c' hc'
        exact ⟨v', oc, (hs.2 c' q).trans hoc, hd⟩
    · rw [lookup_upd] at e
      by_cases hy : y = x
      · subst hy
        rw [if_pos rfl] at e; cases e
        exact ⟨v, .inr ⟨.inl hk, c, hc, hcell⟩, others _ _ hm hs y _ v r⟩
      · rw [if_neg hy] at e
        obtain ⟨v', hw, hr⟩ := hv y V' e
        refine ⟨v', hw.imp id (fun ⟨a, c', hc', oc, hoc, hd⟩ => ⟨a, c', hc', oc, (hs.2 c' fun q => ?_).trans hoc, hd⟩), others _ _ hm hs y V' v' hr⟩
        exact hy (st.celd y x c (q ▸ hc') hc)

theorem store_dat {x : Str} {d : D} {v : Value} (hx : Place Γ x) {k o s} {Q : Unit → Shared → Prop} {E} (st : St G Γ σ k o s) (r : Rd k v d)
    (hq : ∀ s', St G Γ (upd σ x (.dat d)) k o s' → Grs Γ k o s k o s' → Q () s') : wpAny G.M Γ.A (storeName Γ.env x v) Q E s := store_vl (W := .dat d) hx st r fun s' st' g _ => hq s' st' g

theorem sx_assign {x : Str} {px pos : Pos} {e : Expr} {d : D} (h : Ev G Γ σ e d) (hx : Place Γ x) (hs : swapsWith e (some (.Name x px)) pos.line Γ.env = pure false) : Sx G Γ σ (.Assign [.Name x px] e pos) (.next (upd σ x (.dat d))) :=
  fun k o s Q E st p => wpAny_Assign_Name (h k o s _ E st fun k' s' v g r => store_dat hx (st.grow g) r fun s'' st'' g'' => p k' o s'' st'' ((Grs.ofV g).trans g'')) hs
end
end Mine

namespace Mine
open PySem PySem.Calls PySem.Spec PyProof.Rows
set_option maxRecDepth 100000
set_option linter.unusedVariables false
set_option linter.unusedSimpArgs false

theorem Tab.fresh {h : Heap} (t : Tab h) {b : Addr} (e : h.get? b = none) : b ≠ 62 ∧ b ≠ 66 ∧ b ≠ 69 ∧ b ≠ 73 := by
  obtain ⟨⟨ps, c1, h1⟩, ps', c2, h2⟩ := t
  obtain ⟨o1, vs1, _, _, _, _, _, _, _, _, ho1, _⟩ := c1
  obtain ⟨o2, vs2, _, _, _, _, _, _, _, _, ho2, _⟩ := c2
  refine ⟨?_, ?_, ?_, ?_⟩ <;> (rintro rfl)
  · rw [h1.2] at e; cases e
  · rw [ho1] at e; cases e
  · rw [h2.2] at e; cases e
  · rw [ho2] at e; cases e

theorem Gl.only {G : Gd} {k : Part} {s : Shared} (ok : Ok G k s) {I : Addr} {h' : Heap} {t : Nat} (hkI : k I = none) (hI : I ≠ 62 ∧ I ≠ 66 ∧ I ≠ 69 ∧ I ≠ 73)
    (hk : ∀ b o, b ≠ I → s.heap.get? b = some o → h'.get? b = some o) (ht : 0 < t := by first | exact Nat.succ_pos _ | exact Ok.tk ‹_› | assumption) : Gl [I] k s k { s with heap := h', toks := t } := by
  have kin : k.inH h' := fun b o e => hk b o (fun q => by rw [q, hkI] at e; cases e) (ok.sub b o e)
  refine ⟨Part.le.refl k, kin, ok.vol, fun _ _ e => .inl e, fun b o hb e => hk b o (fun q => hb (by simp [q])) e, ok.bare, ?_, ht⟩
  exact ⟨let ⟨ps, c1, c2⟩ := ok.tab.1; ⟨ps, c1.extBut (fun b o hb e => hk b o hb e) (Ne.symm hI.2.1) (Ne.symm hI.1), ⟨let ⟨oc, vc, hoc, r⟩ := c2.1; ⟨oc, vc, hk _ _ (Ne.symm hI.2.1) hoc, r⟩, hk _ _ (Ne.symm hI.1) c2.2⟩⟩,
      let ⟨ps, c1, c2⟩ := ok.tab.2; ⟨ps, c1.extBut (fun b o hb e => hk b o hb e) (Ne.symm hI.2.2.2) (Ne.symm hI.2.2.1), ⟨let ⟨oc, vc, hoc, r⟩ := c2.1; ⟨oc, vc, hk _ _ (Ne.symm hI.2.2.2) hoc, r⟩, hk _ _ (Ne.symm hI.2.2.1) c2.2⟩⟩⟩

/-- only the object at I turns; it is none of the frozen ones, nor a table -/
theorem Gr.only {G : Gd} {k : Part} {s : Shared} (ok : Ok G k s) {I : Addr} {h' : Heap} {t : Nat} (hkI : k I = none) (hI : I ≠ 62 ∧ I ≠ 66 ∧ I ≠ 69 ∧ I ≠ 73)
    (hk : ∀ b o, b ≠ I → s.heap.get? b = some o → h'.get? b = some o) (ho : ∃ o, h'.get? I = some o) (ht : 0 < t := by first | exact Nat.succ_pos _ | exact Ok.tk ‹_› | assumption) : Gr [I] k s k { s with heap := h', toks := t } := by
  have g := Gl.only ok (t := t) hkI hI hk ht
  refine ⟨g.ext, g.sub, g.vol, g.new, g.keep, fun b o e => ?_, rfl, g.bare, g.tab, ht⟩
  · by_cases q : b = I
    · subst q; exact ho
    · exact ⟨o, hk b o q e⟩

theorem lotg {M : Model} {A : Around} {s : Shared} {t : Expr} {I : Addr} {v : Value} {o : Obj} {T : String} {Q : Unit → Shared → Prop} {E} (ho : s.heap.get? I = some o) (hc : o.cls = .type T)
    (hT : (["enumerate", "zip", "dict_itemiterator", "dict_reverseitemiterator", "odict_iterator", "itertools.zip_longest", "itertools.pairwise"] : List String).contains T = false) (hq : Q () s) : wpAny M A (letOwnedTupleGo t (.ref I) v) Q E s := by
  unfold letOwnedTupleGo
  split
  all_goals first
    | exact wpAny_pure hq
    | (cases v with
       | ref a =>
         refine wpAny_bind (wpAny_load ho ?_)
         rw [hc]
         split
         · rename_i n vs e1 e2
           cases e1
           rw [hT]
           exact wpAny_pure hq
         · exact wpAny_pure hq
       | _ => exact wpAny_pure hq)

/-- I is an iterator that will hand on ds -/
structure IterW (G : Gd) (k : Part) (I : Addr) (ds : List D) (fp : List Addr) (P : Nat → Value → Prop) (Stt : Nat → Heap → Prop) : Prop where
  W : ∀ A : Around, A.handled = none → Walks G.prog G.w A I fp [I] ds.length P Stt
  fpk : ∀ b ∈ fp, b = I ∨ ∃ ob, k b = some ob
  obI : ∀ i h, Stt i h → ∃ o, h.get? I = some o
  rd : ∀ i v, P i v → ∃ d, ds[i]? = some d ∧ Rd k v d
  lo : ∀ i (s : Shared) (t : Expr) (v : Value) (A : Around) (Q : Unit → Shared → Prop) (E : Value → Shared → Prop), Stt i s.heap → Q () s → wpAny G.M A (letOwnedTupleGo t (.ref I) v) Q E s
noncomputable def Iter (G : Gd) (k : Part) (s : Shared) (I : Addr) (ds : List D) : Prop := k I = none ∧ ∃ fp P Stt, IterW G k I ds fp P Stt ∧ Stt 0 s.heap

noncomputable def Itr (G : Gd) (Γ : Cx) (σ : Sto) (e : Expr) (ds : List D) : Prop :=
  ∀ k o s Q E, St G Γ σ k o s → (∀ k' s' I, Gr V k s k' s' → s.heap.get? I = none → Iter G k' s' I ds → Q (.ref I) s') → wpAny G.M Γ.A (eval e Γ.env) (fun x s₁ => wpAny G.M Γ.A (pyIter x) Q E s₁) E s

theorem St.weaken {G : Gd} {Γ : Cx} {σ σ' : Sto} {k : Part} {o : List (Str × Addr)} {s : Shared} (st : St G Γ σ' k o s) (h : ∀ x V, σ.lookup x = some V → σ'.lookup x = some V) : St G Γ σ k o s :=
  ⟨st.ok, st.rm, st.fn, st.gl, st.bl, st.mutk, st.locm, let ⟨m, hn, hv⟩ := st.vars; ⟨m, hn, fun x V e => hv x V (h x V e)⟩, st.ownk, st.ownd, st.cel, st.celd⟩


section
variable {G : Gd} {Γ : Cx} {σ σ' σ₀ : Sto} {out : Out}

theorem itr_list {e : Expr} {ds : List D} (h : Ev G Γ σ e (.list ds)) : Itr G Γ σ e ds := fun k o s Q E st hq =>
  h k o s _ E st fun k₁ s₁ v₁ g₁ r₁ => by
    have ok₁ := st.ok.grow g₁
    cases r₁ with
    | @list a vs n _ hk hr =>
      have hl : PySem.IsL s₁.heap a vs.toArray n := ok₁.sub _ _ hk
      refine wpAny_pyIter_list hl.isList ?_
      have g₂ := Gr.keeps (t := s₁.toks) ok₁ (h' := s₁.heap.push { cls := .type "list_iterator", data := .fields #[.ref a, .int 0 0] }) (fun b o e => Heap.get?_push_of_some _ e) V
      refine hq k₁ _ _ (g₁.trans g₂) (g₁.none_of (get?_size _)) ⟨?_, [s₁.heap.objs.size, a], (fun i v => vs.toArray[i]? = some v), (fun i h => h.IsListIter s₁.heap.objs.size a i ∧ h.IsList a vs.toArray), ⟨fun A hA => ?_, fun b hb => ?_, fun i h' st => ?_, fun i v hv => ?_, fun i s' t v A Q E hst hq => ?_⟩, ⟨⟨_, Heap.get?_push_size _ rfl, rfl, rfl⟩, hl.isList.push _⟩⟩
      · cases e : k₁ s₁.heap.objs.size with
        | none => rfl
        | some o' => have := ok₁.sub _ _ e; rw [get?_size] at this; cases this
      · have := Walks.list (prog := G.prog) (w := G.w) hA s₁.heap.objs.size a (Nat.ne_of_lt (Heap.lt_size hl)) vs.toArray
        have e : vs.toArray.size = ds.length := by rw [List.size_toArray, hr.length]
        rw [e] at this
        exact this
      · rcases List.mem_cons.mp hb with rfl | hb
        · exact .inl rfl
        · rcases List.mem_cons.mp hb with rfl | hb
          · exact .inr ⟨_, hk⟩
          · cases hb
      · obtain ⟨⟨o', ho', _⟩, _⟩ := st; exact ⟨o', ho'⟩
      · exact hr.get (by simpa using hv)
      · obtain ⟨⟨o', ho', hc', _⟩, _⟩ := hst; exact lotg ho' hc' (by decide) hq

theorem itr_str {e : Expr} {l : List Nat} (h : Ev G Γ σ e (.str (S l))) : Itr G Γ σ e (l.map fun c => .str (S [c])) := fun k o s Q E st hq =>
  h k o s _ E st fun k₁ s₁ v₁ g₁ r₁ => by
    have ok₁ := st.ok.grow g₁
    cases r₁ with
    | str x t =>
    have fin : ∀ (T : String) (ob : Obj), ((["enumerate", "zip", "dict_itemiterator", "dict_reverseitemiterator", "odict_iterator", "itertools.zip_longest", "itertools.pairwise"] : List String).contains T = false) → (∀ A, A.handled = none → Walks G.prog G.w A s₁.heap.objs.size [s₁.heap.objs.size] [s₁.heap.objs.size] (S l).cps.size (SignAt (S l)) (fun i h => h.IsStrIter s₁.heap.objs.size T (S l) t i)) →
        Heap.IsStrIter (s₁.heap.push ob) s₁.heap.objs.size T (S l) t 0 → Q (.ref s₁.heap.objs.size) { s₁ with heap := s₁.heap.push ob } := by
      intro T ob hT W h0
      have g₂ := Gr.keeps (t := s₁.toks) ok₁ (h' := s₁.heap.push ob) (fun b o e => Heap.get?_push_of_some _ e) V
      refine hq k₁ _ _ (g₁.trans g₂) (g₁.none_of (get?_size _)) ⟨?_, [s₁.heap.objs.size], SignAt (S l), (fun i h => h.IsStrIter s₁.heap.objs.size T (S l) t i), ⟨fun A hA => ?_, fun b hb => ?_, fun i h' hst => ?_, fun i v hv => ?_, fun i s' t v A Q E hst hq => ?_⟩, h0⟩
      · cases e : k₁ s₁.heap.objs.size with
        | none => rfl
        | some o' => have := ok₁.sub _ _ e; rw [get?_size] at this; cases this
      · have := W A hA
        have e : (l.map fun c => D.str (S [c])).length = (S l).cps.size := by simp
        rw [e]; exact this
      · rcases List.mem_cons.mp hb with rfl | hb
        · exact .inl rfl
        · cases hb
      · obtain ⟨o', ho', _⟩ := hst; exact ⟨o', ho'⟩
      · obtain ⟨c, u, hc, rfl⟩ := hv
        exact ⟨.str (S [c]), by rw [List.getElem?_map]; rw [show l[i]? = some c by simpa using hc]; rfl, .str _ u⟩
      · obtain ⟨o', ho', hc', _⟩ := hst; exact lotg ho' hc' hT hq
    cases ha : (S l).cps.all (· < 128)
    · exact wpAny_pyIter_wide ha (fin "str_iterator" _ (by decide) (fun A' hA => Walks.strWide hA _ _ t) ⟨_, Heap.get?_push_size _ rfl, rfl, rfl⟩)
    · exact wpAny_pyIter_ascii ha (fin "str_ascii_iterator" _ (by decide) (fun A' hA => Walks.strAscii hA _ _ t) ⟨_, Heap.get?_push_size _ rfl, rfl, rfl⟩)

inductive Fold (G : Gd) (Γ : Cx) (x : Str) (body : List Stmt) : Sto → List D → Out → Prop
  | nil {σ : Sto} : Fold G Γ x body σ [] (.next σ)
  | step {σ σ₁ : Sto} {d : D} {ds : List D} {out : Out} (h : Ex G Γ (upd σ x (.dat d)) body (.next σ₁)) (r : Fold G Γ x body σ₁ ds out) : Fold G Γ x body σ (d :: ds) out
  | stop {σ : Sto} {d r : D} {ds : List D} (h : Ex G Γ (upd σ x (.dat d)) body (.ret r)) : Fold G Γ x body σ (d :: ds) (.ret r)

theorem St.aside1 {k k' : Part} {o o' : List (Str × Addr)} {s : Shared} {I : Addr} (st : St G Γ σ k o s) (hI : s.heap.get? I = none) (ho : ∀ p ∈ o', p.2 ≠ I) : Aside Γ o' k' [I] := by
  refine ⟨fun b hb hm => ?_, fun b hb p hp e => ?_, fun b hb x c hc e => ?_⟩
  · simp only [List.mem_cons, List.not_mem_nil, or_false] at hb; subst hb
    obtain ⟨_, ob, h2, _⟩ := st.mutk b hm
    rw [hI] at h2; cases h2
  · simp only [List.mem_cons, List.not_mem_nil, or_false] at hb; subst hb
    exact ho p hp e
  · simp only [List.mem_cons, List.not_mem_nil, or_false] at hb; subst hb
    obtain ⟨v, oc, hoc, _⟩ := st.cel x c hc
    rw [e, hI] at hoc; cases hoc

theorem sx_for_w {x : Str} {px pos : Pos} {iter : Expr} {body : List Stmt} {ds : List D} (hit : Itr G Γ σ iter ds) (hx : Place Γ x) (w : ∀ y V, σ₀.lookup y = some V → σ.lookup y = some V) (hf : Fold G Γ x body σ₀ ds out)
    (hs : ∀ x, foldedSetIterable iter Γ.env x = pure x) : Sx G Γ σ (.For (.Name x px) iter body [] pos) out := fun k o s Q E st p => by
  refine wpAny_For (hit k o s _ E st fun k₁ s₁ I g₁ hI0 hIt => ?_) hs
  obtain ⟨hkI, fp, P, Stt, IW, h0⟩ := hIt
  have st₁ := st.grow g₁
  have hI4 := st.ok.tab.fresh hI0
  have hImu : I ∉ Γ.mu := fun hm => by
    obtain ⟨_, ob, h2, _⟩ := st.mutk I hm
    rw [hI0] at h2; cases h2
  have hIV : I ∉ V := fun hm => by
    obtain ⟨o', h'⟩ := st.ok.tab.there I hm
    rw [hI0] at h'; cases h'
  refine PySem.codeAny_forLoop_any
    (fun n s' => ∃ i k' o' σ', n = ds.length - i ∧ i ≤ ds.length ∧ Fold G Γ x body σ' (ds.drop i) out ∧ St G Γ σ' k' o' s' ∧ Grs Γ k o s k' o' s' ∧ Stt i s'.heap ∧ k' I = none ∧ (∀ p ∈ o', p.2 ≠ I) ∧ Part.le k₁ k')
    (fun n s' hinv => ?_) ds.length ⟨0, k₁, o, σ₀, by omega, Nat.zero_le _, by simpa using hf, st₁.weaken w, .ofV g₁, h0, hkI, fun p hp e => ?_, Part.le.refl _⟩
  · obtain ⟨i, k', o', σ', rfl, hi, hfo, st', gs, hst, hkI', hoI, hle⟩ := hinv
    rcases Nat.lt_or_ge i ds.length with hlt | hge
    · refine wpAny_with_toks (n := 1) st'.ok.tk ?_
      refine (IW.W Γ.A st.rm.hh).item i s' _ _ hlt hst fun v h' tk hP hst' hk' htk => ?_
      obtain ⟨d, hd, hr⟩ := IW.rd i v hP
      have gI : Gr [I] k' s' k' { s' with heap := h', toks := tk } := Gr.only st'.ok hkI' hI4 (fun b ob hb e => hk' b ob (by simp [hb]) e) (IW.obI _ _ hst') htk
      have st₂ := st'.move gI (st.aside1 hI0 hoI)
      refine wpAny_of_eq (rfl : letOwnedTupleGo (.Name x px) (.ref I) v = pure ()) ?_
      refine wpAny_assign_Name (store_dat hx st₂ (hr.mono hle) fun s₃ st₃ gs₃ => ?_)
      have gs₂ : Grs Γ k o s k' o' { s' with heap := h', toks := tk } := by
        refine ⟨⟨gs.gr.ext.trans gI.ext, gI.sub, gI.vol, fun b ob e => gs.gr.new b ob e, fun b ob hb e => ?_, fun b ob e => ?_, gs.gr.os, gI.bare, gI.tab, gI.tk⟩, gs.ow⟩
        · exact hk' b ob (fun q => by simp at q; rw [q, hI0] at e; cases e) (gs.gr.keep b ob hb e)
        · obtain ⟨o₂, h₂⟩ := gs.gr.there b ob e; exact gI.there b o₂ h₂
      have hd' : ds.drop i = d :: ds.drop (i + 1) := by
        rw [List.drop_eq_getElem_cons hlt]
        have : ds[i] = d := by rw [List.getElem?_eq_getElem hlt] at hd; exact Option.some.inj hd
        rw [this]
      rw [hd'] at hfo
      have keepI : ∀ {k₄ o₄ s₄}, Grs Γ k' o' s₃ k₄ o₄ s₄ → ∀ ob, s₃.heap.get? I = some ob → s₄.heap.get? I = some ob := fun g ob e => g.gr.keep I ob (fun hm => by
        rcases List.mem_append.mp hm with hm | hm
        · rcases List.mem_append.mp hm with hm | hm
          · exact hImu hm
          · obtain ⟨p, hp, e⟩ := List.mem_map.mp hm
            exact hoI p hp e
        · exact hIV hm) e
      have hI₃ : ∃ ob, s₃.heap.get? I = some ob ∧ h'.get? I = some ob := by
        obtain ⟨ob, e⟩ := IW.obI _ _ hst'
        exact ⟨ob, gs₃.gr.keep I ob (fun hm => by
          rcases List.mem_append.mp hm with hm | hm
          · rcases List.mem_append.mp hm with hm | hm
            · exact hImu hm
            · obtain ⟨p, hp, e⟩ := List.mem_map.mp hm
              exact hoI p hp e
          · exact hIV hm) e, e⟩
      cases hfo with
      | @step _ σ₁ _ _ _ hb hrest =>
        refine hb k' o' s₃ _ _ st₃ fun k₄ o₄ s₄ st₄ g₄ => ?_
        refine ⟨ds.length - (i + 1), by omega, i + 1, k₄, o₄, σ₁, rfl, hlt, hrest, st₄, (gs₂.trans gs₃).trans g₄, ?_, ?_, fun p hp e => ?_, hle.trans g₄.gr.ext⟩
        · refine (IW.W Γ.A st.rm.hh).frame _ _ _ hst' fun b hb' ob e => ?_
          rcases IW.fpk b hb' with rfl | ⟨ob', hob'⟩
          · obtain ⟨ob'', h1, h2⟩ := hI₃
            rw [h2] at e; cases e
            exact keepI g₄ _ h1
          · have e1 := gI.sub b ob' (hle _ _ hob')
            have : ob' = ob := Option.some.inj (e1.symm.trans e)
            subst this
            exact g₄.gr.sub b _ (g₄.gr.ext _ _ (hle _ _ hob'))
        · cases e : k₄ I with
          | none => rfl
          | some ob =>
            obtain ⟨ob'', h1, h2⟩ := hI₃
            rcases g₄.gr.new I ob e with q | q | q
            · rw [hkI'] at q; cases q
            · rcases List.mem_append.mp q with hm | hm
              · rcases List.mem_append.mp hm with hm | hm
                · exact absurd hm hImu
                · obtain ⟨p, hp, e⟩ := List.mem_map.mp hm
                  exact absurd e (hoI p hp)
              · exact absurd hm hIV
            · rw [h1] at q; cases q
        · obtain ⟨ob'', h1, h2⟩ := hI₃
          rcases g₄.ow p hp with q | q
          · obtain ⟨p', hp', e'⟩ := List.mem_map.mp q
            exact hoI p' hp' (e'.trans e)
          · rw [e, h1] at q; cases q
      | @stop _ _ r _ hb =>
        refine hb k' o' s₃ _ _ st₃ fun k₄ o₄ s₄ v₄ g₄ ok₄ r₄ => ?_
        exact p k₄ o₄ s₄ v₄ ((gs₂.trans gs₃).trans g₄) ok₄ r₄
    · have hin : i = ds.length := by omega
      subst hin
      refine wpAny_with_toks (n := 1) st'.ok.tk ?_
      refine (IW.W Γ.A st.rm.hh).done s' _ _ hst fun h' tk hk' htk => ?_
      have hnil : ds.drop ds.length = [] := by simp
      rw [hnil] at hfo
      cases hfo
      have gI := Gl.only st'.ok (t := tk) hkI' hI4 (fun b ob hb e => hk' b ob (by simp [hb]) e) htk
      refine wpAny_execs_nil (p k' o' _ (st'.moveL gI (st.aside1 hI0 hoI)) ⟨⟨gs.gr.ext.trans gI.ext, gI.sub, gI.vol, fun b ob e => gs.gr.new b ob e, fun b ob hb e => ?_, fun b ob e => ?_, gs.gr.os, gI.bare, gI.tab, gI.tk⟩, gs.ow⟩)
      · exact hk' b ob (fun q => by simp at q; rw [q, hI0] at e; cases e) (gs.gr.keep b ob hb e)
      · obtain ⟨o₂, h₂⟩ := gs.gr.there b ob e
        exact ⟨o₂, hk' b o₂ (fun q => by simp at q; rw [q, hI0] at e; cases e) h₂⟩
  · obtain ⟨_, _, ob, h3, _⟩ := st.ownk p hp
    rw [e, hI0] at h3; cases h3

theorem sx_for {x : Str} {px pos : Pos} {iter : Expr} {body : List Stmt} {ds : List D} (hit : Itr G Γ σ iter ds) (hx : Place Γ x) (hf : Fold G Γ x body σ ds out)
    (hs : ∀ x, foldedSetIterable iter Γ.env x = pure x) : Sx G Γ σ (.For (.Name x px) iter body [] pos) out := sx_for_w hit hx (fun _ _ e => e) hf hs
end
end Mine

namespace Mine
open PySem PySem.Calls PySem.Spec PyProof.Rows
set_option maxRecDepth 100000
set_option linter.unusedVariables false
set_option linter.unusedSimpArgs false

theorem zip_lookup {k : Part} : ∀ {names : List Str} {vs : List Value} {ds : List D}, Rds k vs ds → ∀ {x : Str} {V : Vl}, (names.zip (ds.map .dat)).lookup x = some V → ∃ v d, V = .dat d ∧ Rd k v d ∧ (x, v) ∈ names.zip vs
  | [], _, _, _, _, _, h => by simp at h
  | _ :: _, _, _, .nil, _, _, h => by simp at h
  | y :: ns, _, _, .cons (v := v) (d := d) h1 r, x, V, h => by
    rw [List.map_cons, List.zip_cons_cons, List.lookup_cons] at h
    cases e : x == y with
    | true =>
      rw [e] at h; simp at h; subst h
      exact ⟨v, d, rfl, h1, by rw [eq_of_beq e]; exact .head _⟩
    | false =>
      rw [e] at h
      obtain ⟨v', d', h1', h2', h3'⟩ := zip_lookup r h
      exact ⟨v', d', h1', h2', .tail _ h3'⟩

theorem bindL_other {kd : Str → Option NameKind} {x : Str} : ∀ (b : List (Str × Value)) (m : Str → Option Value), x ∉ b.map (·.1) → bindL kd b m x = m x
  | [], m, _ => rfl
  | (n, v) :: r, m, h => by
    have h' : x ≠ n ∧ x ∉ r.map (·.1) := by simpa using h
    unfold bindL
    rw [bindL_other r _ h'.2]
    split
    · show (if x = n then _ else _) = _; rw [if_neg h'.1]
    · rfl
theorem bindC_other {kd : Str → Option NameKind} {x : Str} : ∀ (b : List (Str × Value)) (m : Str → Option Value), x ∉ b.map (·.1) → bindC kd b m x = m x
  | [], m, _ => rfl
  | (n, v) :: r, m, h => by
    have h' : x ≠ n ∧ x ∉ r.map (·.1) := by simpa using h
    unfold bindC
    rw [bindC_other r _ h'.2]
    split
    · rfl
    · show (if x = n then _ else _) = _; rw [if_neg h'.1]
theorem bindL_at {kd : Str → Option NameKind} {x : Str} {v : Value} (hk : kd x = some .local) : ∀ (b : List (Str × Value)) (m : Str → Option Value), (b.map (·.1)).Nodup → (x, v) ∈ b → bindL kd b m x = some v
  | (n, u) :: r, m, hn, h => by
    rw [List.map_cons, List.nodup_cons] at hn
    unfold bindL
    rcases List.mem_cons.mp h with e | h
    · cases e
      rw [if_pos hk, bindL_other r _ hn.1]
      simp
    · exact bindL_at hk r _ hn.2 h
theorem bindC_at {kd : Str → Option NameKind} {x : Str} {v : Value} (hk : kd x = some .cell) : ∀ (b : List (Str × Value)) (m : Str → Option Value), (b.map (·.1)).Nodup → (x, v) ∈ b → bindC kd b m x = some v
  | (n, u) :: r, m, hn, h => by
    rw [List.map_cons, List.nodup_cons] at hn
    unfold bindC
    rcases List.mem_cons.mp h with e | h
    · cases e
      rw [if_neg (by rw [hk]; decide), bindC_other r _ hn.1]
      simp
    · exact bindC_at hk r _ hn.2 h

theorem zip_keys {α β : Type} : ∀ (a : List α) (b : List β), ((a.zip b).map (·.1)).Sublist a
  | [], _ => by simp
  | _ :: _, [] => by simp
  | x :: a, y :: b => by simpa using zip_keys a b

theorem Rm.deeper {A : Around} {n : Nat} (r : Rm A (n + 1)) (env : Env) : Rm (A.deeper env) n := ⟨r.hh, by have := r.hd; show A.depth + 1 + n < _; omega, by have := r.hu; show A.units + 3 + 4 * n + 40 < _; omega⟩

theorem get?_ge {h : Heap} {b : Addr} (hb : h.objs.size ≤ b) : h.get? b = none := by
  cases e : h.get? b with
  | none => rfl
  | some o => exact absurd (Heap.lt_size e) (Nat.not_lt.mpr hb)

/-- the context of a def's body -/
noncomputable abbrev cx (A : Around) (n : Nat) (fd : FuncData) (L a : Addr) : Cx := { A := A, n := n, env := callEnvC fd L a, mu := L :: (cellsFrom (L + 1) fd.scope.names []).map (·.2) }

theorem start_st {G : Gd} {k : Part} {s s₁ : Shared} {A : Around} {n : Nat} {fd : FuncData} {a : Addr} {names : List Str} {vs : List Value} {ds : List D} (ok : Ok G k s) (rm : Rm A n)
    (hfn : fd.scope.kind = .function) (hgl : fd.globals = mainGlobals) (hbl : fd.builtins = builtinsNs) (hnd : names.Nodup) (r : Rds k vs ds)
    (hcl : ∀ p ∈ cellsFrom (s.heap.objs.size + 1) fd.scope.names [], (cellsFrom (s.heap.objs.size + 1) fd.scope.names []).lookup p.1 = some p.2)
    (hkind : ∀ x ∈ names, fd.scope.names.lookup x = some .local ∨ (fd.scope.names.lookup x = some .cell ∧ ∀ L, ((cellsFrom L fd.scope.names []).lookup x).isSome = true))
    (x : InCallC s (callEnvC fd s.heap.objs.size a).locals (bindL (callEnvC fd s.heap.objs.size a).kindOf (names.zip vs) fun _ => none) (callEnvC fd s.heap.objs.size a).cells
        (bindC (callEnvC fd s.heap.objs.size a).kindOf (names.zip vs) fun _ => none) s₁) (ht : 0 < s₁.toks) :
    St G (cx A n fd s.heap.objs.size a) (names.zip (ds.map .dat)) k [] s₁ ∧ Gr V k s k s₁ := by
  obtain ⟨⟨h₁, tk, rfl⟩, hns, hkeep, hfr⟩ := x.toInCall
  have g := Gr.keeps (t := tk) ok (h' := h₁) hkeep V ht
  have ok₁ := ok.grow g
  have knone : ∀ b, s.heap.objs.size ≤ b → k b = none := fun b hb => by
    cases e : k b with
    | none => rfl
    | some o => exact absurd (Heap.lt_size (ok.sub _ _ e)) (Nat.not_lt.mpr hb)
  have hnd' : ((names.zip vs).map (·.1)).Nodup := (zip_keys names vs).nodup hnd
  refine ⟨⟨ok₁, rm, hfn, hgl, hbl, fun b hb => ?_, .head _, ⟨_, hns, fun y V' e => ?_⟩, fun p hp => (nomatch hp), List.nodup_nil, fun y c hc => ⟨_, x.cell y c hc⟩, fun y z c h1 h2 => name_of_addr x.apart (mem_lookup h1) (mem_lookup h2)⟩, g⟩
  · rcases List.mem_cons.mp hb with rfl | hb
    · exact ⟨knone _ (Nat.le_refl _), Heap.Ns.obj hns⟩
    · obtain ⟨p, hp, rfl⟩ := List.mem_map.mp hb
      obtain ⟨oc, hoc, hd⟩ := x.cell p.1 p.2 (hcl p hp)
      exact ⟨knone _ (Nat.le_of_lt (x.above p.1 p.2 hp)), oc, hoc, fun vs q => by rw [hd] at q; cases q⟩
  · obtain ⟨v, d, rfl, hr, hm⟩ := zip_lookup r e
    refine ⟨v, ?_, hr⟩
    have hxn : y ∈ names := (zip_keys names vs).subset (List.mem_map_of_mem (f := (·.1)) hm)
    rcases hkind y hxn with hl | ⟨hl, hc⟩
    · exact .inl ⟨hl, bindL_at (kd := (callEnvC fd s.heap.objs.size a).kindOf) hl _ _ hnd' hm⟩
    · obtain ⟨c, hc⟩ := Option.isSome_iff_exists.mp (hc (s.heap.objs.size + 1))
      have := x.cell y c hc
      rw [bindC_at (kd := (callEnvC fd s.heap.objs.size a).kindOf) hl _ _ hnd' hm] at this
      exact .inr ⟨.inl hl, c, hc, this⟩

theorem fn_intro {G : Gd} {n : Nat} {a : Addr} {ob : Obj} {fd : FuncData} {body : List Stmt} {names : List Str} {ds : List D} {d : D} (B : Base G) (hk : G.kB a = some ob) (hdata : ob.data = .func fd)
    (hcd : ∀ h, G.kB.inH h → h.CodeRec fd.code fd.qualname) (hbody : fd.body = .stmts body) (hclo : fd.closure = []) (hgl : fd.globals = mainGlobals) (hbl : fd.builtins = builtinsNs)
    (hbind : ∀ vs : List Value, vs.length = names.length → bindArgs fd ⟨vs, []⟩ = pure (names.zip vs)) (hlen : ds.length = names.length) (hnd : names.Nodup)
    (hkind : ∀ x ∈ names, fd.scope.names.lookup x = some .local ∨ (fd.scope.names.lookup x = some .cell ∧ ∀ L, ((cellsFrom L fd.scope.names []).lookup x).isSome = true))
    (hcl : ∀ L, ∀ p ∈ cellsFrom L fd.scope.names [], (cellsFrom L fd.scope.names []).lookup p.1 = some p.2)
    (hfn : fd.scope.kind = .function) (hco : fd.scope.isCoroutine = false) (hgen : fd.scope.isGenerator = false)
    (h : ∀ A L, Ex G (cx A n fd L a) (names.zip (ds.map .dat)) body (.ret d)) : Act G (n + 1) (fun vs => call (.ref a) vs) ds d := by
  intro A k s vs Q E rm ok r hq
  have hvl : vs.length = names.length := r.length.trans hlen
  refine wpAny_call (codeAny_call_function rm.room (ok.baseIn _ _ hk) hdata hco hgen hbody (hcd _ ok.baseIn) ?_)
  rw [hbind vs hvl, hclo]
  refine wpAny_pure (wpAny_with_toks (n := 1) ok.tk (wpAny_newFunctionEnv_cells hfn (fun x hx => ?_) fun env he s₁ x ht => ?_))
  · have : x.1 ∈ names := (zip_keys names vs).subset (List.mem_map_of_mem (f := (·.1)) hx)
    exact (hkind x.1 this).imp id fun ⟨a, b⟩ => ⟨a, b _⟩
  · subst he
    obtain ⟨st, g⟩ := start_st ok (rm.deeper (callEnvC fd s.heap.objs.size a)) hfn hgl hbl hnd r (hcl _) hkind x ht
    refine ⟨(B.lim _ ok.baseIn).keeps x.toInCall.keep, codeAny_func ?_⟩
    refine h _ _ k [] s₁ _ _ st fun k' o' s' v gs ok' r' => ?_
    refine hq k' s' v (g.comp gs.gr fun q hq => ?_) r'
    rcases List.mem_append.mp hq with hm | hm
    · rcases List.mem_append.mp hm with hm | hm
      · refine .inr (get?_ge ?_)
        rcases List.mem_cons.mp hm with rfl | hm
        · exact Nat.le_refl _
        · obtain ⟨p, hp, rfl⟩ := List.mem_map.mp hm
          exact Nat.le_of_lt (x.above p.1 p.2 hp)
      · cases hm
    · exact .inl hm
end Mine

namespace Mine
open PySem PySem.Calls PySem.Spec PyProof.Rows
set_option maxRecDepth 100000
set_option linter.unusedVariables false
set_option linter.unusedSimpArgs false

section
variable {prog : Program} {w : World} {A : Around} {R : Result → Shared → Prop} {s : Shared}
theorem compLoop_my {elt target iter : Expr} {scope : Scope} {pos : Pos} {it acc : Value} {env : Env} (I : Nat → Shared → Prop)
    (turn : ∀ n s, I n s → wpAny (model prog w) A (pyNext it) (fun r s₁ => match r with
      | none => R (.ok .next) s₁
      | some v => wpAny (model prog w) A (letOwnedTupleGo target it v) (fun _ s₁' => wpAny (model prog w) A (assign target env v) (fun _ s₂ => wpAny (model prog w) A (eval elt env) (fun x s₃ =>
          wpAny (model prog w) A (call (.builtin "list.append") [acc, x]) (fun _ s₄ => ∃ m, m < n ∧ I m s₄) (notedBy (model prog w) A env fun e s' => R (.error e) s') s₃)
          (notedBy (model prog w) A env fun e s' => R (.error e) s') s₂) (notedBy (model prog w) A env fun e s' => R (.error e) s') s₁') (notedBy (model prog w) A env fun e s' => R (.error e) s') s₁) (notedBy (model prog w) A env fun e s' => R (.error e) s') s)
    (n : Nat) (h : I n s) :
    codeAny (model prog w) A (.compLoop (.ListComp elt [⟨target, iter, [], 0⟩] scope pos) 0 it acc env) R s := by
  refine codeAny_loop rfl I (fun n s hI => ?_) n h
  show wpAny _ _ ((compTurn (.ListComp elt [⟨target, iter, [], 0⟩] scope pos) 0 it acc env).onRaise (fun x => do noteFrame x env; theTreesLotGoes x)) _ _ s
  refine wpAny_noted ?_
  rw [compTurn_list1]
  refine wpAny_bind (wpAny_standAt (wpAny_bind (wpAny_mono (turn n s hI) (fun r s₁ h₁ => ?_) fun _ _ h' => h')))
  cases r with
  | none => exact wpAny_pure h₁
  | some v =>
    refine wpAny_bind (wpAny_mono h₁ (fun _ s₁' h₁' => ?_) fun _ _ h' => h')
    exact wpAny_bind (wpAny_mono h₁' (fun _ s₂ h₂ => wpAny_bind (wpAny_bind (wpAny_mono h₂ (fun x s₃ h₃ => wpAny_bind (wpAny_mono h₃
      (fun _ s₄ h₄ => wpAny_pure (wpAny_pure ⟨rfl, h₄⟩)) fun _ _ h' => h')) fun _ _ h' => h'))) fun _ _ h' => h')

theorem newEnv_around {scope : Scope} {globals : Addr} {cl : List (Str × Addr)} {qual : Str} {outer : Env} {M : Model} {E : Value → Shared → Prop} {Q : Env → Shared → Prop}
    (h : Q (newEnv scope s.heap.objs.size globals (cellsFrom (s.heap.objs.size + 1) scope.names cl) qual none .none (some outer) builtinsNs)
      { s with heap := pushCells (s.heap.push { cls := .type "dict", data := .dict #[] }) scope.names }) : wpAny M A (newFunctionEnv scope globals cl [] qual none .none (some outer)) Q E s := by
  simp only [newFunctionEnv, Option.isSome_some, if_true]
  refine wpAny_bind (wpAny_alloc ?_)
  refine wpAny_bind (wpAny_layCells _ (fun name kind cells => by cases hkc : kind == NameKind.cell <;> simp [hkc]) _ _ _ _ ?_)
  rw [show ({ s with heap := s.heap.push { cls := .type "dict", data := .dict #[] } } : Shared).heap.objs.size = s.heap.objs.size + 1 from Heap.size_push ..]
  refine wpAny_bind ?_
  rw [List.forIn_nil]
  exact wpAny_pure (wpAny_pure h)
end

theorem pushCells_size : ∀ (names : List (Str × NameKind)) (h : Heap), h.objs.size ≤ (pushCells h names).objs.size
  | [], h => Nat.le_refl _
  | (_, kind) :: r, h => by
    unfold pushCells
    split
    · exact Nat.le_trans (by rw [Heap.size_push]; omega) (pushCells_size r _)
    · exact pushCells_size r h

/-- what a target does with the datum d -/
noncomputable def Asg (G : Gd) (Γ : Cx) (σ : Sto) (t : Expr) (d : D) (σ' : Sto) : Prop :=
  ∀ k o s Q E v, St G Γ σ k o s → Rd k v d → (∀ k' s', St G Γ σ' k' o s' → Grs Γ k o s k' o s' → Q () s') → wpAny G.M Γ.A (assign t Γ.env v) Q E s
theorem asg_name {G : Gd} {Γ : Cx} {σ : Sto} {x : Str} {px : Pos} {d : D} (hx : Place Γ x) : Asg G Γ σ (.Name x px) d (upd σ x (.dat d)) := fun k o s Q E v st r hq =>
  wpAny_assign_Name (store_dat hx st r fun s' st' g => hq k s' st' g)

inductive Each (G : Gd) (Γ : Cx) (σ : Sto) (t elt : Expr) : List D → List D → Prop
  | nil : Each G Γ σ t elt [] []
  | cons {d e : D} {ds es : List D} {σ' : Sto} (hb : Asg G Γ σ t d σ') (hw : ∀ x V, σ.lookup x = some V → σ'.lookup x = some V) (h : Ev G Γ σ' elt e) (r : Each G Γ σ t elt ds es) : Each G Γ σ t elt (d :: ds) (e :: es)

/-- the context of a comprehension's block -/
noncomputable abbrev cxc (Γ : Cx) (scope : Scope) (cl : List (Str × Addr)) (C : Addr) : Cx :=
  { A := Γ.A, n := Γ.n, env := compEnvC scope (cellsFrom (C + 1) scope.names cl) C Γ.env, mu := C :: (cellsFrom (C + 1) scope.names []).map (·.2) }

end Mine

namespace Mine
open PySem PySem.Calls PySem.Spec PyProof.Rows
set_option maxRecDepth 100000
set_option linter.unusedVariables false
set_option linter.unusedSimpArgs false

theorem cellsFrom_app : ∀ (names : List (Str × NameKind)) (n : Nat) (acc : List (Str × Addr)), cellsFrom n names acc = cellsFrom n names [] ++ acc
  | [], _, _ => rfl
  | (name, kind) :: r, n, acc => by
    unfold cellsFrom
    split
    · rw [cellsFrom_app r (n + 1) ((name, n) :: acc), cellsFrom_app r (n + 1) [(name, n)]]; simp
    · exact cellsFrom_app r n acc

theorem Gr.keepAway {X : List Addr} {k k' : Part} {s s' : Shared} (g : Gr X k s k' s') {b : Addr} (hb : b ∉ X) {ob : Obj} (e : s.heap.get? b = some ob) (hk : k b = none) : k' b = none := by
  cases e' : k' b with
  | none => rfl
  | some o' =>
    rcases g.new b o' e' with q | q | q
    · rw [hk] at q; cases q
    · exact absurd q hb
    · rw [q] at e; cases e

section
variable {G : Gd} {Γ : Cx} {σ σc : Sto}

theorem stt_frame {k : Part} {I : Addr} {ds : List D} {fp : List Addr} {P : Nat → Value → Prop} {Stt : Nat → Heap → Prop} (IW : IterW G k I ds fp P Stt) {A : Around} (hA : A.handled = none) {i : Nat} {h h' : Heap} (hs : Stt i h)
    (hI : ∀ ob, h.get? I = some ob → h'.get? I = some ob) (h1 : k.inH h) (h2 : k.inH h') : Stt i h' :=
  (IW.W A hA).frame i h h' hs fun b hb ob e => by
    rcases IW.fpk b hb with rfl | ⟨ob', hob⟩
    · exact hI ob e
    · have := (h1 _ _ hob).symm.trans e
      cases this
      exact h2 _ _ hob

theorem comp_core {t elt iter : Expr} {scope : Scope} {pos0 pos : Pos} {cl : List (Str × Addr)} {ds es : List D} {use : Option (Value → Sem Unit)} (hit : Itr G Γ σ iter ds)
    (hs : ∀ x, foldedSetIterable iter Γ.env x = pure x) (hclos : closureFor scope Γ.env = pure cl) (hkind : scope.kind = .function)
    (hnames : ∀ x ∈ scope.names, x.2 = .local → scope.names.lookup x.1 = some .local)
    (hcl : ∀ x c, (x, c) ∈ cl → Γ.env.cells.lookup x = some c)
    (hown : ∀ C, ∀ p ∈ cellsFrom C scope.names [], (cellsFrom C scope.names []).lookup p.1 = some p.2)
    (hσ : ∀ C x V, σc.lookup x = some V → ∃ d c, V = .dat d ∧ σ.lookup x = some (.dat d) ∧ (Γ.env.kindOf x = some .cell ∨ Γ.env.kindOf x = some .free) ∧
      ((relabel scope Γ.env).names.lookup x = some .cell ∨ (relabel scope Γ.env).names.lookup x = some .free) ∧ Γ.env.cells.lookup x = some c ∧ (cellsFrom C scope.names cl).lookup x = some c)
    (hE : ∀ C, Each G (cxc Γ scope cl C) σc t elt ds es) (hsz : ds.length ≤ sizeLine) {k o s} {Q : Value → Shared → Prop} {E} (st : St G Γ σ k o s)
    (hq : ∀ k' s' a C m, Gr V k s k' s' → Rd k' (.ref a) (.list es) → s.heap.get? C = none → k' C = none → s'.heap.Ns C m → compPost G.M Γ.A E use Q (.ref a) C (.ok .next) s') :
    wpAny G.M Γ.A (comprehension (.ListComp elt [⟨t, iter, [], 0⟩] scope pos0) scope Γ.env pos (newList []) false (eval iter Γ.env) use) Q E s := by
  refine wpAny_comprehension_free (g := ⟨t, iter, [], 0⟩) (gs := []) rfl hs hclos hkind hnames (hit k o s _ E st fun k₂ s₂ I g₂ hI0 hIt => ?_)
  obtain ⟨hkI, fp, P, Stt, IW, hS0⟩ := hIt
  have ok₂ := st.ok.grow g₂
  obtain ⟨obI, hobI⟩ := IW.obI 0 _ hS0
  refine wpAny_newObj_type (newEnv_around ?_)
  generalize hH2 : s₂.heap.push { cls := .type "list", dict := none, data := .seq ([] : List Value).toArray } = H2
  have hC1 : H2.objs.size = s₂.heap.objs.size + 1 := by rw [← hH2, Heap.size_push]
  generalize hH4 : pushCells (H2.push { cls := .type "dict", data := .dict #[] }) scope.names = H4
  generalize ha : s₂.heap.objs.size = a at hC1
  generalize hC : H2.objs.size = C at hC1
  have old2 : ∀ b o, s₂.heap.get? b = some o → H2.get? b = some o := fun b o e => by rw [← hH2]; exact Heap.get?_push_of_some _ e
  have old4 : ∀ b o, H2.get? b = some o → H4.get? b = some o := fun b o e => by rw [← hH4]; exact pushCells_keeps _ _ b o (Heap.get?_push_of_some _ e)
  have old : ∀ b o, s₂.heap.get? b = some o → H4.get? b = some o := fun b o e => old4 b o (old2 b o e)
  have haO : H4.get? a = some (seqO "list" #[] 0) := old4 _ _ (by rw [← hH2, ← ha]; exact Heap.get?_push_size _ rfl)
  have hNs : H4.Ns C (fun _ => none) := by
    rw [← hH4, ← hC]
    exact (Heap.Ns.new H2 (.type "dict")).keeps (pushCells_keeps _ _)
  have okC : CellsOk H4 (C + 1) (cellsFrom (C + 1) scope.names []) := by
    have := cellsFrom_ok scope.names (H2.push { cls := .type "dict", data := .dict #[] }) (C + 1) [] ⟨fun _ _ hm => (nomatch hm), List.Pairwise.nil⟩ (by rw [Heap.size_push, hC]; exact Nat.le_refl _)
    rw [Heap.size_push, hC, hH4] at this
    exact this
  have new2 : ∀ b, a ≤ b → s₂.heap.get? b = none := fun b hb => get?_ge (by rw [ha]; exact hb)
  have kge : ∀ b, a ≤ b → k₂ b = none := fun b hb => by
    cases e : k₂ b with
    | none => rfl
    | some o' => have := ok₂.sub _ _ e; rw [new2 b hb] at this; cases this
  have g₄ : Gr V k₂ s₂ k₂ { s₂ with heap := H4 } := Gr.keeps (t := s₂.toks) ok₂ old V
  have G₄ := g₂.trans g₄
  have cellLt : ∀ x c, Γ.env.cells.lookup x = some c → c < a := fun x c hc => by
    obtain ⟨v, oc, hoc, _⟩ := (st.grow g₂).cel x c hc
    have := Heap.lt_size hoc
    rwa [ha] at this
  have memc : ∀ x c, (x, c) ∈ cellsFrom (C + 1) scope.names cl → ((x, c) ∈ cellsFrom (C + 1) scope.names [] ∧ C + 1 ≤ c) ∨ (Γ.env.cells.lookup x = some c ∧ c < a) := fun x c hm => by
    rw [cellsFrom_app] at hm
    rcases List.mem_append.mp hm with h | h
    · exact .inl ⟨h, (okC.empty x c h).2⟩
    · exact .inr ⟨hcl x c h, cellLt x c (hcl x c h)⟩
  have st₄ : St G (cxc Γ scope cl C) σc k₂ [] { s₂ with heap := H4 } := by
    refine ⟨ok₂.grow g₄, st.rm, hkind, st.gl, st.bl, fun b hb => ?_, .head _, ⟨_, hNs, fun x V' e => ?_⟩, fun p hp => (nomatch hp), List.nodup_nil, fun x c hc => ?_, fun x y c h1 h2 => ?_⟩
    · rcases List.mem_cons.mp hb with rfl | hb
      · exact ⟨kge _ (by omega), Heap.Ns.obj hNs⟩
      · obtain ⟨p, hp, rfl⟩ := List.mem_map.mp hb
        obtain ⟨⟨oc, hoc, hd⟩, hge⟩ := okC.empty p.1 p.2 hp
        exact ⟨kge _ (by omega), oc, hoc, fun vs q => by rw [hd] at q; cases q⟩
    · obtain ⟨d, c, rfl, hx, hk1, hk2, hc1, hc2⟩ := hσ (C + 1) x V' e
      obtain ⟨m, _, hv⟩ := (st.grow G₄).vars
      obtain ⟨v, hw, hr⟩ := hv x _ hx
      refine ⟨v, .inr ⟨hk2, c, hc2, ?_⟩, hr⟩
      rcases hw with ⟨hl, _⟩ | ⟨_, c', hc', hcell⟩
      · rcases hk1 with q | q <;> (rw [hl] at q; cases q)
      · rw [hc1] at hc'; cases hc'; exact hcell
    · rcases memc x c (mem_lookup hc) with ⟨h, _⟩ | ⟨h, _⟩
      · exact ⟨_, (okC.empty x c h).1⟩
      · obtain ⟨v, hv⟩ := (st.grow g₂).cel x c h
        exact ⟨v, hv.keeps old⟩
    · rcases memc x c (mem_lookup h1) with ⟨e1, l1⟩ | ⟨e1, l1⟩ <;> rcases memc y c (mem_lookup h2) with ⟨e2, l2⟩ | ⟨e2, l2⟩
      · exact name_of_addr okC.apart e1 e2
      · exact absurd (Nat.lt_of_lt_of_le (Nat.lt_trans l2 (by rw [hC1]; exact Nat.lt_succ_of_lt (Nat.lt_succ_self _))) l1) (Nat.lt_irrefl _)
      · exact absurd (Nat.lt_of_lt_of_le (Nat.lt_trans l1 (by rw [hC1]; exact Nat.lt_succ_of_lt (Nat.lt_succ_self _))) l2) (Nat.lt_irrefl _)
      · exact st.celd x y c e1 e2
  -- what lies apart
  have hIlt : I < a := by rw [← ha]; exact Heap.lt_size hobI
  have hImu : ∀ b ∈ (cxc Γ scope cl C).mu, a < b := fun b hb => by
    rcases List.mem_cons.mp hb with rfl | hb
    · rw [hC1]; exact Nat.lt_succ_self _
    · obtain ⟨p, hp, rfl⟩ := List.mem_map.mp hb
      exact Nat.lt_of_lt_of_le (by rw [hC1]; exact Nat.lt_succ_of_lt (Nat.lt_succ_self _)) (okC.empty p.1 p.2 hp).2
  have hI4 := st.ok.tab.fresh hI0
  have ha4 := ok₂.tab.fresh (new2 a (Nat.le_refl _))
  have aV : a ∉ V := fun hm => by
    obtain ⟨o', h'⟩ := ok₂.tab.there a hm
    rw [new2 a (Nat.le_refl _)] at h'; cases h'
  have IV : I ∉ V := fun hm => by
    obtain ⟨o', h'⟩ := st.ok.tab.there I hm
    rw [hI0] at h'; cases h'
  have aX : ∀ o' : List (Str × Addr), o' = [] → a ∉ (cxc Γ scope cl C).mu ++ own o' ++ V := fun o' ho hm => by
    subst ho
    rcases List.mem_append.mp hm with hm | hm
    · rcases List.mem_append.mp hm with hm | hm
      · exact absurd (hImu a hm) (Nat.lt_irrefl _)
      · cases hm
    · exact aV hm
  have IX : I ∉ (cxc Γ scope cl C).mu ++ own [] ++ V := fun hm => by
    rcases List.mem_append.mp hm with hm | hm
    · rcases List.mem_append.mp hm with hm | hm
      · exact absurd (Nat.lt_trans hIlt (hImu I hm)) (Nat.lt_irrefl _)
      · cases hm
    · exact IV hm
  have aside : ∀ (k' : Part) (b : Addr), b ≤ a → s.heap.get? b = none → (∀ x c, Γ.env.cells.lookup x = some c → c ≠ b) → Aside (cxc Γ scope cl C) [] k' [b] := fun k' b hb hb0 hcb => by
    refine ⟨fun q hq hm => ?_, fun q hq p hp => (nomatch hp), fun q hq x c hc e => ?_⟩
    · simp only [List.mem_cons, List.not_mem_nil, or_false] at hq; subst hq
      exact absurd (Nat.lt_of_lt_of_le (hImu q hm) hb) (Nat.lt_irrefl _)
    · simp only [List.mem_cons, List.not_mem_nil, or_false] at hq; subst hq
      subst e
      rcases memc x c (mem_lookup hc) with ⟨_, l⟩ | ⟨l, _⟩
      · exact absurd (Nat.lt_of_lt_of_le (Nat.lt_trans (by rw [hC1]; exact Nat.lt_succ_self _) l) hb) (Nat.lt_irrefl _)
      · exact hcb x c l rfl
  have asI : ∀ k', Aside (cxc Γ scope cl C) [] k' [I] := fun k' => aside k' I (Nat.le_of_lt hIlt) hI0 fun x c hc e => by
    obtain ⟨v, oc, hoc, _⟩ := st.cel x c hc
    rw [e, hI0] at hoc; cases hoc
  have asA : ∀ k', Aside (cxc Γ scope cl C) [] k' [a] := fun k' => aside k' a (Nat.le_refl _) (g₂.none_of (new2 a (Nat.le_refl _))) fun x c hc e => by
    have := cellLt x c hc
    rw [e] at this; exact Nat.lt_irrefl _ this
  have hIa : I ≠ a := Nat.ne_of_lt hIlt
  have muNone : ∀ q ∈ (cxc Γ scope cl C).mu, s.heap.get? q = none := fun q hq => g₂.none_of (new2 q (Nat.le_of_lt (hImu q hq)))
  have ofGrs : ∀ {k' s' k'' s''}, Gr V k s k' s' → Grs (cxc Γ scope cl C) k' [] s' k'' [] s'' → Gr V k s k'' s'' := fun gv gs => gv.comp gs.gr fun q hq => by
    rcases List.mem_append.mp hq with hm | hm
    · rcases List.mem_append.mp hm with hm | hm
      · exact .inr (muNone q hm)
      · cases hm
    · exact .inl hm
  -- the loop
  have loop : codeAny G.M Γ.A (.compLoop (.ListComp elt [⟨t, iter, [], 0⟩] scope pos0) 0 (.ref I) (.ref a) (cxc Γ scope cl C).env) (compPost G.M Γ.A E use Q (.ref a) C) { s₂ with heap := H4 } := by
    refine compLoop_my
      (fun n s' => ∃ i k' vs, n = ds.length - i ∧ i ≤ ds.length ∧ Each G (cxc Γ scope cl C) σc t elt (ds.drop i) (es.drop i) ∧ St G (cxc Γ scope cl C) σc k' [] s' ∧ Gr V k s k' s' ∧ Stt i s'.heap ∧ k' I = none ∧ k' a = none ∧ Part.le k₂ k' ∧
        s'.heap.PlainList a (vs : List Value).toArray ∧ Rds k' vs (es.take i) ∧ vs.length = i)
      (fun n s' hinv => ?_) ds.length ⟨0, k₂, [], by omega, Nat.zero_le _, by simpa using hE C, st₄, G₄, ?_, hkI, kge _ (Nat.le_refl _), Part.le.refl _, ⟨0, haO⟩, by simpa using Rds.nil, rfl⟩
    · obtain ⟨i, k', vs, rfl, hi, hea, st', gv, hst, hkI', hka', hle, hpl, hvs, hvl⟩ := hinv
      rcases Nat.lt_or_ge i ds.length with hlt | hge
      · refine wpAny_with_toks (n := 1) st'.ok.tk ?_
        refine (IW.W Γ.A st.rm.hh).item i s' _ _ hlt hst fun v h' tk hP hst' hk' htk => ?_
        obtain ⟨d, hd, hr⟩ := IW.rd i v hP
        have gI : Gr [I] k' s' k' { s' with heap := h', toks := tk } := Gr.only st'.ok hkI' hI4 (fun b ob hb e => hk' b ob (by simp [hb]) e) (IW.obI _ _ hst') htk
        have st₁ := st'.move gI (asI k')
        have hd' : ds.drop i = d :: ds.drop (i + 1) := by
          rw [List.drop_eq_getElem_cons hlt]
          have : ds[i] = d := by rw [List.getElem?_eq_getElem hlt] at hd; exact Option.some.inj hd
          rw [this]
        rw [hd'] at hea
        generalize hes : es.drop i = es' at hea
        cases hea with
        | @cons _ e _ er σ' hb hw hev hrest =>
        have hel : es[i]? = some e := by
          have := congrArg (fun l => l[0]?) hes
          simpa using this
        have her : es.drop (i + 1) = er := by
          have := congrArg List.tail hes
          simpa using this
        have hilt : i < es.length := by
          rcases Nat.lt_or_ge i es.length with q | q
          · exact q
          · rw [List.getElem?_eq_none q] at hel; cases hel
        have het : es.take (i + 1) = es.take i ++ [e] := by
          rw [List.take_succ, hel]; rfl
        refine IW.lo (i + 1) _ _ _ _ _ _ hst' ?_
        refine hb k' [] _ _ _ v st₁ (hr.mono hle) fun k₃ s₃ st₃ gs₃ => ?_
        refine hev k₃ [] s₃ _ _ st₃ fun k₄ s₄ y g₄ ry => ?_
        obtain ⟨nn, hpl⟩ := hpl
        have hpl₁ : h'.get? a = some (seqO "list" vs.toArray nn) := hk' a _ (by simp [Ne.symm hIa]) hpl
        have hpl₃ := gs₃.gr.keep a _ (aX [] rfl) hpl₁
        have hpl₄ := g₄.keep a _ aV hpl₃
        have hka₃ := gs₃.gr.keepAway (aX [] rfl) hpl₁ hka'
        have hka₄ := g₄.keepAway aV hpl₃ hka₃
        obtain ⟨oI, hoI⟩ := IW.obI _ _ hst'
        have hI₃ := gs₃.gr.keep I _ IX hoI
        have hI₄ := g₄.keep I _ IV hI₃
        have hkI₃ := gs₃.gr.keepAway IX hoI hkI'
        have hkI₄ := g₄.keepAway IV hI₃ hkI₃
        have st₄' := st₃.grow g₄
        refine wpAny_list_append_plain (hsz := by rw [List.size_toArray, hvl]; exact Nat.le_trans hi hsz) ⟨nn, hpl₄⟩ fun h₅ hl₅ hs₅ => ?_
        have gA : Gr [a] k₄ s₄ k₄ { s₄ with heap := h₅ } := Gr.only (t := s₄.toks) st₄'.ok hka₄ ha4 (fun b ob hb e => (hs₅.2 b hb).trans e) (let ⟨n5, h5⟩ := hl₅; ⟨_, h5⟩) st₄'.ok.tk
        have gvI : Gr V k s k' { s' with heap := h', toks := tk } := gv.comp gI fun q hq => .inr (by simp at hq; rw [hq]; exact hI0)
        have gv₄ : Gr V k s k₄ s₄ := (ofGrs gvI gs₃).trans g₄
        refine ⟨ds.length - (i + 1), by omega, i + 1, k₄, vs ++ [y], rfl, hlt, by rw [her]; exact hrest, (st₄'.move gA (asA k₄)).weaken hw, gv₄.comp gA fun q hq => .inr (by simp at hq; rw [hq]; exact g₂.none_of (new2 a (Nat.le_refl _))), ?_, hkI₄, hka₄, hle.trans (gs₃.gr.ext.trans g₄.ext), ?_, ?_, by simp [hvl]⟩
        · refine stt_frame IW st.rm.hh hst' (fun ob e => ?_) (fun b o e => gI.sub b o (hle b o e)) (fun b o e => gA.sub b o (g₄.ext _ _ (gs₃.gr.ext _ _ (hle _ _ e))))
          rw [hoI] at e; cases e
          exact (hs₅.2 I hIa).trans hI₄
        · have : vs.toArray.push y = (vs ++ [y]).toArray := by simp
          rw [← this]; exact hl₅
        · rw [het]
          exact (hvs.mono (gs₃.gr.ext.trans g₄.ext)).append (.cons ry .nil)
      · have hin : i = ds.length := by omega
        subst hin
        refine wpAny_with_toks (n := 1) st'.ok.tk ?_
        refine (IW.W Γ.A st.rm.hh).done s' _ _ hst fun h' tk hk' htk => ?_
        obtain ⟨nn, hpl⟩ := hpl
        have hpl₁ : h'.get? a = some (seqO "list" vs.toArray nn) := hk' a _ (by simp [Ne.symm hIa]) hpl
        obtain ⟨m, hNs', _⟩ := st'.vars
        have gl := Gl.only st'.ok (t := tk) hkI' hI4 (fun b ob hb e => hk' b ob (by simp [hb]) e) htk
        have hCI : C ≠ I := fun e => by
          have := hImu C (.head _)
          rw [e] at this; exact Nat.lt_irrefl _ (Nat.lt_trans this hIlt)
        have hsa0 : s.heap.get? a = none := g₂.none_of (new2 a (Nat.le_refl _))
        have hes : es.take ds.length = es := by
          have : ds.drop ds.length = [] := by simp
          rw [this] at hea
          generalize hq : es.drop ds.length = q at hea
          cases hea
          exact List.take_of_length_le (List.drop_eq_nil_iff.mp hq)
        rw [hes] at hvs
        have hle' : Part.le k' (k'.put a (seqO "list" vs.toArray nn)) := fun b o e => by
          unfold Part.put
          split
          · rename_i q; rw [q, hka'] at e; cases e
          · exact e
        refine hq (k'.put a (seqO "list" vs.toArray nn)) _ a C m ⟨gv.ext.trans hle', fun b o e => ?_, fun b hb => ?_, fun b o e => ?_, fun b o hb e => ?_, fun b o e => ?_, gv.os, gl.bare, gl.tab, gl.tk⟩ (.list (Part.put_self ..) (hvs.mono hle')) (muNone C (.head _)) ?_ (hNs'.at' fun o' e => hk' C o' (by simp [hCI]) e)
        · unfold Part.put at e
          split at e
          · rename_i q; cases e; rw [q]; exact hpl₁
          · exact gl.sub b o e
        · unfold Part.put
          split
          · rename_i q; rw [q] at hb; exact absurd hb aV
          · exact gv.vol b hb
        · unfold Part.put at e
          split at e
          · rename_i q; rw [q]; exact .inr (.inr hsa0)
          · exact gv.new b o e
        · exact hk' b o (by simp; intro q; rw [q, hI0] at e; cases e) (gv.keep b o hb e)
        · obtain ⟨o2, h2⟩ := gv.there b o e
          exact ⟨o2, hk' b o2 (by simp; intro q; rw [q, hI0] at e; cases e) h2⟩
        · unfold Part.put
          split
          · rename_i q
            have := hImu C (.head _)
            rw [q] at this; exact absurd this (Nat.lt_irrefl _)
          · exact (st'.mutk C (.head _)).1
    · exact stt_frame IW st.rm.hh hS0 (fun ob e => old _ _ e) ok₂.sub (fun b o e => old _ _ (ok₂.sub _ _ e))
  exact codeAny_compStart_list loop ((IW.W Γ.A st.rm.hh).self 0 _ _ _ (stt_frame IW st.rm.hh hS0 (fun ob e => old _ _ e) ok₂.sub (fun b o e => old _ _ (ok₂.sub _ _ e))) loop)
end
end Mine

namespace Mine
open PySem PySem.Calls PySem.Spec PyProof.Rows
set_option maxRecDepth 100000
set_option linter.unusedVariables false
set_option linter.unusedSimpArgs false

theorem Gl.same {G : Gd} {k : Part} {s : Shared} (ok : Ok G k s) {C : Addr} {h' : Heap} {t : Nat} (hkC : k C = none) {ob : Obj} (hob : s.heap.get? C = some ob) (hnf : notFields ob) (hs : Heap.SameBut C s.heap h') (ht : 0 < t := by first | exact Nat.succ_pos _ | exact Ok.tk ‹_› | assumption) : Gl [C] k s k { s with heap := h', toks := t } :=
  Gl.only ok hkC (let ⟨_, a, b, c, d⟩ := ok.tab.away hob hnf; ⟨c, a, d, b⟩) (fun b o hb e => (hs.2 b hb).trans e) ht

theorem Gr.sameNew {G : Gd} {k k' : Part} {s s' : Shared} (ok : Ok G k s) (g : Gr V k s k' s') {C : Addr} {h' : Heap} {t : Nat} (hk : k' C = none) (h0 : s.heap.get? C = none) {ob : Obj} (hob : s'.heap.get? C = some ob) (hnf : notFields ob) (hs : Heap.SameBut C s'.heap h') (ht : 0 < t := by first | exact Nat.succ_pos _ | exact Ok.tk ‹_› | assumption) :
    Gr V k s k' { s' with heap := h', toks := t } := by
  have gl := Gl.same (ok.grow g) (t := t) hk hob hnf hs ht
  have ne : ∀ b o, s.heap.get? b = some o → b ≠ C := fun b o e q => by rw [q, h0] at e; cases e
  exact ⟨g.ext, gl.sub, g.vol, g.new, fun b o hb e => (hs.2 b (ne b o e)).trans (g.keep b o hb e), fun b o e => let ⟨o2, h2⟩ := g.there b o e; ⟨o2, (hs.2 b (ne b o e)).trans h2⟩, g.os, gl.bare, gl.tab, gl.tk⟩

section
variable {G : Gd} {Γ : Cx} {σ σc : Sto}

/-- what a comprehension's scope must be -/
structure CompOk (Γ : Cx) (σ σc : Sto) (scope : Scope) (iter : Expr) (cl : List (Str × Addr)) : Prop where
  hs : ∀ x, foldedSetIterable iter Γ.env x = pure x
  hclos : closureFor scope Γ.env = pure cl
  hkind : scope.kind = .function
  hnames : ∀ x ∈ scope.names, x.2 = .local → scope.names.lookup x.1 = some .local
  hcl : ∀ x c, (x, c) ∈ cl → Γ.env.cells.lookup x = some c
  hown : ∀ C, ∀ p ∈ cellsFrom C scope.names [], (cellsFrom C scope.names []).lookup p.1 = some p.2
  hσ : ∀ C x V, σc.lookup x = some V → ∃ d c, V = .dat d ∧ σ.lookup x = some (.dat d) ∧ (Γ.env.kindOf x = some .cell ∨ Γ.env.kindOf x = some .free) ∧
      ((relabel scope Γ.env).names.lookup x = some .cell ∨ (relabel scope Γ.env).names.lookup x = some .free) ∧ Γ.env.cells.lookup x = some c ∧ (cellsFrom C scope.names cl).lookup x = some c

theorem ev_comp {t elt iter : Expr} {scope : Scope} {pos : Pos} {cl : List (Str × Addr)} {ds es : List D} (hit : Itr G Γ σ iter ds) (c : CompOk Γ σ σc scope iter cl)
    (hE : ∀ C, Each G (cxc Γ scope cl C) σc t elt ds es) (hsz : ds.length ≤ sizeLine) : Ev G Γ σ (.ListComp elt [⟨t, iter, [], 0⟩] scope pos) (.list es) := fun k o s Q E st hq => by
  rw [eval_ListComp]
  refine comp_core (σc := σc) (use := none) hit c.hs c.hclos c.hkind c.hnames c.hcl c.hown c.hσ hE hsz st fun k' s' a C m g r h0 hk hN => ?_
  refine ⟨m, hN, fun h' hsb => ?_⟩
  obtain ⟨ob, hob, hnf⟩ := Heap.Ns.obj hN
  exact hq k' _ _ (Gr.sameNew (t := s'.toks) st.ok g hk h0 hob hnf hsb g.tk) r

theorem sx_comp {y : Str} {py pos : Pos} {t elt iter : Expr} {scope : Scope} {cpos : Pos} {cl : List (Str × Addr)} {ds es : List D} (hit : Itr G Γ σ iter ds) (c : CompOk Γ σ σc scope iter cl)
    (hE : ∀ C, Each G (cxc Γ scope cl C) σc t elt ds es) (hsz : ds.length ≤ sizeLine) (hy : Place Γ y)
    (hsw : swapsWith (.ListComp elt [⟨t, iter, [], 0⟩] scope cpos) (some (.Name y py)) pos.line Γ.env = pure true) :
    Sx G Γ σ (.Assign [.Name y py] (.ListComp elt [⟨t, iter, [], 0⟩] scope cpos) pos) (.next (upd σ y (.dat (.list es)))) := fun k o s Q E st p => by
  rw [exec_Assign_Name_used _ _ _ _ hsw]
  refine wpAny_bind (wpAny_standAt (wpAny_bind ?_))
  show wpAny _ _ (comprehension _ _ _ _ _ _ _ _ >>= _) _ _ _
  refine wpAny_bind ?_
  refine comp_core (σc := σc) (use := some _) hit c.hs c.hclos c.hkind c.hnames c.hcl c.hown c.hσ hE hsz st fun k' s' a C m g r h0 hk hN => ?_
  have st' := st.grow g
  refine wpAny_assign_Name (store_dat hy st' r fun s'' st'' gs => ?_)
  obtain ⟨ob, hob, hnf⟩ := Heap.Ns.obj hN
  have hCmu : C ∉ Γ.mu := fun hm => by
    obtain ⟨_, o2, h2, _⟩ := st.mutk C hm
    rw [h0] at h2; cases h2
  have hCX : C ∉ Γ.mu ++ own o ++ V := fun hm => by
    rcases List.mem_append.mp hm with hm | hm
    · rcases List.mem_append.mp hm with hm | hm
      · exact hCmu hm
      · obtain ⟨q, hq, e⟩ := List.mem_map.mp hm
        obtain ⟨_, _, o2, h2, _⟩ := st.ownk q hq
        rw [e, h0] at h2; cases h2
    · obtain ⟨o2, h2⟩ := st.ok.tab.there C hm
      rw [h0] at h2; cases h2
  have hob' := gs.gr.keep C ob hCX hob
  refine ⟨m, hN.at' fun o2 e => gs.gr.keep C o2 hCX e, fun h' hsb => ?_⟩
  have gl := Gl.same st''.ok (t := s''.toks) hk hob' hnf hsb st''.ok.tk
  have ne : ∀ b o, s.heap.get? b = some o → b ≠ C := fun b o e q => by rw [q, h0] at e; cases e
  have gt := (Grs.ofV (o := o) g).trans gs
  refine wpAny_pure (wpAny_pure (p k' o _ (st''.moveL gl (st.aside1 h0 fun q hq e => ?_)) ⟨⟨gt.gr.ext, gl.sub, gt.gr.vol, gt.gr.new, fun b o2 hb e => (hsb.2 b (ne b o2 e)).trans (gt.gr.keep b o2 hb e), fun b o2 e => let ⟨o3, h3⟩ := gt.gr.there b o2 e; ⟨o3, (hsb.2 b (ne b o2 e)).trans h3⟩, gt.gr.os, gl.bare, gl.tab, gl.tk⟩, gt.ow⟩))
  obtain ⟨_, _, o2, h2, _⟩ := st.ownk q hq
  rw [e, h0] at h2; cases h2

theorem itr_range {f : Str} {p pos : Pos} {e : Expr} {n : Nat} (hf : Fv G Γ σ (.Name f p) (.type "range")) (he : Ev G Γ σ e (.int n)) (hse : ∀ env rest, starEach (e :: rest) env = (false, eval e env) :: starEach rest env)
    (hn : n ≤ sizeLine) : Itr G Γ σ (.Call (.Name f p) [e] [] pos) ((List.range n).map fun (i : Nat) => .int i) := fun k o s Q E st hq => by
  have hs : sizeLine = 16777216 := sizeLine_eq
  refine wpAny_Call_Name_kw (hf k o s _ E st ?_)
  refine PySem.callWith_type (plain_evs (.cons hse he .nil)) (evalArgs_evs (.cons hse he .nil) st fun k₁ s₁ vs g₁ r₁ => ?_)
  cases r₁ with
  | cons h1 r1 =>
    cases r1
    cases h1 with
    | int i t =>
    have ok₁ := st.ok.grow g₁
    refine call_range_1 ?_
    refine wpAny_pyIter_range (IsRange.new ..) (small_one (by decide) (by decide) (by omega) (by omega)) ?_
    have hsz : Builtin.Range.rangeSize 0 n 1 = (n : Int) := by rw [rangeSize_one]; split <;> omega
    have g₂ := Gr.keeps (t := s₁.toks + 1 + 1) ok₁ (h' := (s₁.heap.push { cls := .type "range", data := .fields #[.int 0 s₁.toks, .int n t, .int 1 (s₁.toks + 1)] }).push { cls := .type "range_iterator", data := .fields #[rawInt 0, rawInt (Builtin.Range.rangeSize 0 n 1), rawInt 1] })
      (fun b o e => Heap.get?_push_of_some _ (Heap.get?_push_of_some _ e)) V
    have hobj := Heap.get?_push_size (s₁.heap.push { cls := .type "range", data := .fields #[.int 0 s₁.toks, .int n t, .int 1 (s₁.toks + 1)] }) (o := { cls := .type "range_iterator", data := .fields #[rawInt 0, rawInt (Builtin.Range.rangeSize 0 n 1), rawInt 1] }) rfl
    have hge : s₁.heap.objs.size ≤ (s₁.heap.push { cls := .type "range", data := .fields #[.int 0 s₁.toks, .int n t, .int 1 (s₁.toks + 1)] }).objs.size := by rw [Heap.size_push]; exact Nat.le_succ _
    show Q (.ref (s₁.heap.push { cls := .type "range", data := .fields #[.int 0 s₁.toks, .int n t, .int 1 (s₁.toks + 1)] }).objs.size) _
    generalize (s₁.heap.push { cls := .type "range", data := .fields #[.int 0 s₁.toks, .int n t, .int 1 (s₁.toks + 1)] }).objs.size = I at hobj hge ⊢
    have hI0 := get?_ge hge
    refine hq k₁ _ I (g₁.trans g₂) (g₁.none_of hI0) ⟨?_, [I], (fun i v => i < n ∧ ∃ t, v = .int (0 + i * 1) t), (fun i h => IsRangeIter h I (0 + (i : Nat) * 1) ((n : Int) - (i : Nat)) 1), ⟨fun A hA => ?_, fun b hb => ?_, fun i h' hst => ⟨_, hst⟩, fun i v hv => ?_, fun i s' t v A Q E hst hq => ?_⟩, ?_⟩
    · cases e : k₁ I with
      | none => rfl
      | some o' => have := ok₁.sub _ _ e; rw [hI0] at this; cases this
    · have := (Walks.range (prog := G.prog) (w := G.w) hA I 0 1 n).bound
      rw [List.length_map, List.length_range]; exact this
    · rcases List.mem_cons.mp hb with rfl | hb
      · exact .inl rfl
      · cases hb
    · obtain ⟨hi, t', rfl⟩ := hv
      refine ⟨.int i, by rw [List.getElem?_map, List.getElem?_range hi]; rfl, ?_⟩
      have : (0 : Int) + i * 1 = i := by omega
      rw [this]; exact .int _ _
    · have hst' : s'.heap.get? I = some _ := hst
      exact lotg hst' rfl (by decide) hq
    · show Heap.get? _ I = _
      rw [hobj, hsz]
      simp [rawInt]
end
end Mine

namespace Mine
open PySem PySem.Calls PySem.Spec PyProof.Rows
set_option maxRecDepth 100000
set_option linter.unusedVariables false
set_option linter.unusedSimpArgs false

noncomputable def cut {α : Type} (l : List α) (lo hi : Option Int) : List α := (l.drop (lo.elim 0 (clipAt l.length))).take (hi.elim l.length (clipAt l.length) - lo.elim 0 (clipAt l.length))

theorem clipAt_le (n : Nat) (i : Int) : clipAt n i ≤ n := by
  have := clipAt_cast n i
  omega
theorem indices_one (lo hi : Option Int) (n : Nat) : Builtin.Str.strSliceIndices lo hi 1 n = (List.range (hi.elim n (clipAt n) - lo.elim 0 (clipAt n))).map (lo.elim 0 (clipAt n) + ·) := by
  rw [← sliceRange_one]
  unfold Builtin.Str.strSliceIndices
  cases lo <;> cases hi <;> simp [clipAt_cast]

theorem pick_list (l : List Nat) (a k : Nat) : ((List.range k).map (a + ·)).filterMap (l.toArray[·]?) = (l.drop a).take k := by
  have := pick_run l.toArray a k
  simpa using this

theorem cut_full {l : List Nat} {lo hi : Option Int} (h : (Builtin.Str.strSliceIndices lo hi 1 l.length).length = l.length) : cut l lo hi = l := by
  rw [indices_one, List.length_map, List.length_range] at h
  unfold cut
  have h1 : hi.elim l.length (clipAt l.length) ≤ l.length := by cases hi; exact Nat.le_refl _; exact clipAt_le _ _
  rw [h]
  rcases Nat.eq_zero_or_pos l.length with q | q
  · have : l = [] := List.eq_nil_of_length_eq_zero q
    subst this; simp
  · have : lo.elim 0 (clipAt l.length) = 0 := by omega
    rw [this]; simp

section
variable {G : Gd} {n : Nat}

theorem optV_part {i : Option Int} {v : Value} (h : optV i v) : ∃ p : Option (Int × Tok), v = partValue p ∧ p.map (·.1) = i := by
  cases i with
  | none => exact ⟨none, h, rfl⟩
  | some i => obtain ⟨t, rfl⟩ := h; exact ⟨some (i, t), rfl, rfl⟩

theorem sl_s (l : List Nat) (lo hi : Option Int) (hw : l.length ≤ sizeLine) : ActSl G n lo hi none (.str (S l)) (.str (S (cut l lo hi))) := by
  intro A k s v vl vu vs sl Q E rm ok r hs h1 h2 h3 hq
  cases r with
  | str x t =>
  obtain ⟨p1, rfl, e1⟩ := optV_part h1
  obtain ⟨p2, rfl, e2⟩ := optV_part h2
  have h3' : vs = .none := h3
  subst h3'
  refine wpAny_getItem_str_slice (l := p1) (u := p2) (st := none) hs rfl ?_
  unfold sliceMade slicePicked
  rw [e1, e2]
  simp only [Option.map_none, Option.getD_none, S_length]
  split
  · rename_i hc
    have : cut l lo hi = l := cut_full (by simpa using hc)
    exact hq k s _ (Gr.refl ok V) (by rw [this]; exact .str _ _)
  · have e : (Builtin.Str.strSliceIndices lo hi 1 l.length).filterMap ((S l).cps[·]?) = cut l lo hi := by
      rw [indices_one]; exact pick_list l _ _
    rw [e]
    refine ⟨?_, hq k _ _ (Gr.keeps ok (fun _ _ e => e) V) (.str _ _)⟩
    show (S (cut l lo hi)).length ≤ _
    rw [S_length]
    unfold cut
    rw [List.length_take, List.length_drop]; omega

theorem indices_back (n : Nat) : Builtin.Str.strSliceIndices none none (-1) n = (List.range n).map fun k => n - 1 - k := by
  unfold Builtin.Str.strSliceIndices sliceRange
  simp only [show ¬ ((-1 : Int) > 0) by decide, if_false]
  by_cases h : (n : Int) - 1 > -1
  · rw [if_pos h]
    have : (((n : Int) - 1 - -1 - -1 - 1) / - -1).toNat = n := by
      have e : ((n : Int) - 1 - -1 - -1 - 1) = n := by omega
      rw [e]; simp
    rw [this]
    refine List.map_congr_left fun k hk => ?_
    have := List.mem_range.mp hk
    omega
  · rw [if_neg h]
    have : n = 0 := by omega
    subst this; rfl
theorem filterMap_some {α β : Type} {f : α → Option β} {g : α → β} : ∀ {l : List α}, (∀ x ∈ l, f x = some (g x)) → l.filterMap f = l.map g
  | [], _ => rfl
  | a :: l, h => by
    rw [List.filterMap_cons, h a (.head _), List.map_cons, filterMap_some fun x hx => h x (.tail _ hx)]
theorem pick_back (l : List Nat) : ((List.range l.length).map fun k => l.length - 1 - k).filterMap (l.toArray[·]?) = l.reverse := by
  rw [filterMap_some (g := fun i => l.getD i 0), List.map_map]
  · apply List.ext_getElem (by simp)
    intro i h1 h2
    simp only [List.length_map, List.length_range] at h1
    have h3 : l.length - 1 - i < l.length := by omega
    simp [List.getElem_reverse, List.getD, List.getElem?_eq_getElem h3]
  · intro x hx
    obtain ⟨k, hk, rfl⟩ := List.mem_map.mp hx
    have := List.mem_range.mp hk
    have h3 : l.length - 1 - k < l.length := by omega
    simp [List.getD, List.getElem?_eq_getElem h3]

noncomputable def sided (side : Int) (l : List Nat) : List Nat := if side = 1 then l else l.reverse
theorem slst_s (l : List Nat) (side : Int) (h : side = 1 ∨ side = -1) (hw : l.length ≤ sizeLine) : ActSl G n none none (some side) (.str (S l)) (.str (S (sided side l))) := by
  intro A k s v vl vu vs sl Q E rm ok r hs h1 h2 h3 hq
  cases r with
  | str x t =>
  have h1' : vl = .none := h1
  have h2' : vu = .none := h2
  subst h1' h2'
  obtain ⟨tv, rfl⟩ := h3
  refine wpAny_getItem_str_slice (l := none) (u := none) (st := some (side, tv)) hs (by rcases h with rfl | rfl <;> rfl) ?_
  unfold sliceMade slicePicked
  simp only [Option.map_none, Option.map_some, Option.getD_some, S_length]
  rcases h with rfl | rfl
  · have e : (Builtin.Str.strSliceIndices none none 1 l.length).length = l.length := by rw [indices_one]; simp
    rw [e]
    simp only [beq_self_eq_true, Bool.and_self, if_true]
    exact hq k s _ (Gr.refl ok V) (.str _ _)
  · rw [if_neg (by simp), indices_back, show ((List.range l.length).map fun k => l.length - 1 - k).filterMap ((S l).cps[·]?) = l.reverse from pick_back l]
    refine ⟨?_, hq k _ _ (Gr.keeps ok (fun _ _ e => e) V) (.str _ _)⟩
    show (S l.reverse).length ≤ _
    rw [S_length, List.length_reverse]; exact hw

theorem sl_l (ds : List D) (lo hi : Option Int) (hw : ds.length ≤ sizeLine) : ActSl G n lo hi none (.list ds) (.list (cut ds lo hi)) := by
  intro A k s v vl vu vs sl Q E rm ok r hs h1 h2 h3 hq
  obtain ⟨a, us, m, rfl, hl, hr⟩ := isL_of ok r
  have h3' : vs = .none := h3
  subst h3'
  have part : ∀ {i : Option Int} {v : Value}, optV i v → IsPart v i := fun {i v} h => by
    cases i with
    | none => cases h; exact .none
    | some i => obtain ⟨t, rfl⟩ := h; exact .int i t
  refine wpAny_getItem_list_slice (lo := lo) (hi := hi) (st := none) hl.isList hs (part h1) (part h2) .none (by simp) ?_ (by rw [List.size_toArray, hr.length]; exact hw)
  have e : slicePick us.toArray lo hi none = (cut us lo hi).toArray := slicePick_plain us.toArray lo hi
  have hr' : Rds k (cut us lo hi) (cut ds lo hi) := by
    unfold cut; rw [hr.length]; exact (hr.drop _).take _
  rw [e]
  have g₂ := Gr.keepsPut (t := s.toks) ok (h' := s.heap.push (seqO "list" (cut us lo hi).toArray 0)) (fun b o e => Heap.get?_push_of_some _ e) (get?_size _) (Heap.get?_push_size _ rfl) V
  exact hq _ _ _ g₂ (.list (Part.put_self ..) (hr'.mono g₂.ext))
end
end Mine

namespace Mine
open PySem PySem.Calls PySem.Spec PyProof.Rows
set_option maxRecDepth 100000
set_option linter.unusedVariables false
set_option linter.unusedSimpArgs false

section
variable {G : Gd} {Γ : Cx} {σ σ' σ₁ σ₂ : Sto} {out : Out}

inductive Sub (σ : Sto) : Sto → Prop
  | nil : Sub σ []
  | cons {x : Str} {W : Vl} {r : Sto} (h : σ.lookup x = some W) (t : Sub σ r) : Sub σ ((x, W) :: r)
theorem Sub.look {σ : Sto} : ∀ {r : Sto}, Sub σ r → ∀ x W, r.lookup x = some W → σ.lookup x = some W
  | _, .nil, x, W, e => by simp at e
  | _, .cons (x := y) h t, x, W, e => by
    rw [List.lookup_cons] at e
    cases q : x == y with
    | true => rw [q] at e; simp at e; subst e; rw [eq_of_beq q]; exact h
    | false => rw [q] at e; exact t.look x W e
theorem Sub.of {σ r : Sto} (h : ∀ p ∈ r, σ.lookup p.1 = some p.2) : Sub σ r := by
  induction r with
  | nil => exact .nil
  | cons p r ih => exact .cons (h p (.head _)) (ih fun q hq => h q (.tail _ hq))
theorem lk_here {σ : Sto} {x : Str} {W : Vl} : (upd σ x W).lookup x = some W := by rw [lookup_upd, if_pos rfl]
theorem lk_skip {σ : Sto} {x y : Str} {W : Vl} {r : Option Vl} (h : y ≠ x) (t : σ.lookup y = r) : (upd σ x W).lookup y = r := by rw [lookup_upd, if_neg h]; exact t

theorem Ex.pre {body : List Stmt} (h : Ex G Γ σ body out) (w : Sub σ' σ) : Ex G Γ σ' body out := fun k o s Q E st p => h k o s Q E (st.weaken w.look) p
theorem Sx.pre {x : Stmt} (h : Sx G Γ σ x out) (w : Sub σ' σ) : Sx G Γ σ' x out := fun k o s Q E st p => h k o s Q E (st.weaken w.look) p
theorem Ev.pre {e : Expr} {d : D} (h : Ev G Γ σ e d) (w : Sub σ' σ) : Ev G Γ σ' e d := fun k o s Q E st p => h k o s Q E (st.weaken w.look) p
theorem Tv.pre {e : Expr} {b : Bool} (h : Tv G Γ σ e b) (w : Sub σ' σ) : Tv G Γ σ' e b := fun k o s Q E st p => h k o s Q E (st.weaken w.look) p
theorem Ex.post {body : List Stmt} (h : Ex G Γ σ body (.next σ₁)) (w : Sub σ₁ σ₂) : Ex G Γ σ body (.next σ₂) := fun k o s Q E st p => h k o s Q E st fun k' o' s' st' g => p k' o' s' (st'.weaken w.look) g
theorem Sx.post {x : Stmt} (h : Sx G Γ σ x (.next σ₁)) (w : Sub σ₁ σ₂) : Sx G Γ σ x (.next σ₂) := fun k o s Q E st p => h k o s Q E st fun k' o' s' st' g => p k' o' s' (st'.weaken w.look) g

/-- a truth of a plain value -/
theorem tv_bool {e : Expr} {b : Bool} (h : Ev G Γ σ e (.bool b)) (he : ∀ whole, isTrue e Γ.env whole = (do let v ← whole; standAt e.pos; holding [v] (truthy v))) : Tv G Γ σ e b := fun k o s Q E st hq =>
  wpAny_isTrue_value (h k o s _ E st fun k' s' v g r => by cases r; exact wpAny_truthy_bool (hq k' s' g)) (he _)

/-- an owned thing comes in -/
theorem St.own {k o s} (st : St G Γ σ k o s) {x : Str} {a : Addr} {ob : Obj} (hk : k a = none) (hm : a ∉ Γ.mu) (hn : a ∉ Mine.own o) (ho : s.heap.get? a = some ob) (hf : notFields ob)
    (hx : ∀ W, σ.lookup x = some W → ∃ d, W = .dat d) : St G Γ σ k ((x, a) :: o) s := by
  refine ⟨st.ok, st.rm, st.fn, st.gl, st.bl, st.mutk, st.locm, ?_, fun p hp => ?_, ?_, st.cel, st.celd⟩
  · obtain ⟨m, hns, hv⟩ := st.vars
    refine ⟨m, hns, fun y W e => ?_⟩
    obtain ⟨v, hw, hr⟩ := hv y W e
    refine ⟨v, hw, ?_⟩
    by_cases q : y = x
    · subst q
      obtain ⟨d, rfl⟩ := hx W e
      exact hr
    · cases W with
      | dat d => exact hr
      | lst ds =>
        obtain ⟨b, vs, n, e1, hl, r⟩ := hr
        exact ⟨b, vs, n, e1, by rw [List.lookup_cons, show (y == x) = false from beq_eq_false_iff_ne.mpr q]; exact hl, r⟩
      | acc ds i =>
        obtain ⟨b, vs, n, dx, od, e1, hl, r⟩ := hr
        exact ⟨b, vs, n, dx, od, e1, by rw [List.lookup_cons, show (y == x) = false from beq_eq_false_iff_ne.mpr q]; exact hl, r⟩
  · rcases List.mem_cons.mp hp with rfl | hp
    · exact ⟨hk, hm, ob, ho, hf⟩
    · exact st.ownk p hp
  · exact List.nodup_cons.mpr ⟨hn, st.ownd⟩

/-- an expression whose value may be the name's own -/
noncomputable def EvV (G : Gd) (Γ : Cx) (σ : Sto) (e : Expr) (x : Str) (W : Vl) : Prop :=
  ∀ k o s Q E, St G Γ σ k o s → (∀ k' o' s' v, St G Γ σ k' o' s' → Grs Γ k o s k' o' s' → (∀ y, y ≠ x → o'.lookup y = o.lookup y) → (∀ p ∈ o, ∀ ob, s.heap.get? p.2 = some ob → s'.heap.get? p.2 = some ob) → VRd k' o' s'.heap x v W → Q v s') → wpAny G.M Γ.A (eval e Γ.env) Q E s

theorem own_keeps {k k' o s s'} (st : St G Γ σ k o s) (g : Gr V k s k' s') : ∀ p ∈ o, ∀ ob, s.heap.get? p.2 = some ob → s'.heap.get? p.2 = some ob := fun p hp ob e => by
  obtain ⟨_, _, ob', h2, h3⟩ := st.ownk p hp
  exact g.keep _ _ (st.ok.tab.away h2 h3).1 e
theorem evv_dat {e : Expr} {x : Str} {d : D} (h : Ev G Γ σ e d) : EvV G Γ σ e x (.dat d) := fun k o s Q E st hq =>
  h k o s Q E st fun k' s' v g r => hq k' o s' v (st.grow g) (.ofV g) (fun _ _ => rfl) (own_keeps st g) r

theorem evv_nil {x : Str} {pos : Pos} (hx : ∀ W, σ.lookup x = some W → ∃ d, W = .dat d) : EvV G Γ σ (.List [] pos) x (.lst []) := fun k o s Q E st hq => by
  refine List_ (Calls.spliced_nil ?_)
  refine wpAny_newObj_type ?_ (by show (0 : Nat) ≤ sizeLine; exact Nat.zero_le _)
  have g := Gr.keeps (t := s.toks) st.ok (h' := s.heap.push (seqO "list" #[] 0)) (fun b o e => Heap.get?_push_of_some _ e) V st.ok.tk
  have st' := st.grow g
  have h0 := get?_size s.heap
  have ho : Heap.get? (s.heap.push (seqO "list" #[] 0)) s.heap.objs.size = some (seqO "list" #[] 0) := Heap.get?_push_size _ rfl
  have hk : k s.heap.objs.size = none := by
    cases e : k s.heap.objs.size with
    | none => rfl
    | some o' => have := st.ok.sub _ _ e; rw [h0] at this; cases this
  refine hq k _ _ _ (st'.own (x := x) hk (fun hm => ?_) (fun hm => ?_) ho (fun vs e => by cases e) hx) ⟨g.mono fun b hb => List.mem_append.mpr (.inr hb), fun p hp => ?_⟩ (fun y hy => ?_) (own_keeps st g) ⟨_, #[], 0, rfl, by simp, ho, .nil⟩
  · obtain ⟨_, ob, h2, _⟩ := st.mutk _ hm
    rw [h0] at h2; cases h2
  · obtain ⟨p, hp, e⟩ := List.mem_map.mp hm
    obtain ⟨_, _, ob, h2, _⟩ := st.ownk p hp
    rw [e, h0] at h2; cases h2
  · rcases List.mem_cons.mp hp with rfl | hp
    · exact .inr h0
    · exact .inl (List.mem_map_of_mem hp)
  · rw [List.lookup_cons, show (y == x) = false from beq_eq_false_iff_ne.mpr hy]

inductive EvVs (G : Gd) (Γ : Cx) (σ : Sto) : List Expr → List (Str × Vl) → Prop
  | nil : EvVs G Γ σ [] []
  | cons {e : Expr} {x : Str} {W : Vl} {es : List Expr} {ws : List (Str × Vl)} (he : ∀ env rest, starEach (e :: rest) env = (false, eval e env) :: starEach rest env) (h : EvV G Γ σ e x W) (hx : x ∉ ws.map (·.1)) (r : EvVs G Γ σ es ws) : EvVs G Γ σ (e :: es) ((x, W) :: ws)
inductive VRds (k : Part) (o : List (Str × Addr)) (h : Heap) : List Value → List (Str × Vl) → Prop
  | nil : VRds k o h [] []
  | cons {v : Value} {x : Str} {W : Vl} {vs : List Value} {ws : List (Str × Vl)} (e : VRd k o h x v W) (r : VRds k o h vs ws) : VRds k o h (v :: vs) ((x, W) :: ws)

theorem VRd.turn {k k' : Part} {o o' : List (Str × Addr)} {h h' : Heap} {x : Str} {v : Value} {W : Vl} (r : VRd k o h x v W) (hk : Part.le k k') (hl : o'.lookup x = o.lookup x)
    (ho : ∀ p ∈ o, ∀ ob, h.get? p.2 = some ob → h'.get? p.2 = some ob) : VRd k' o' h' x v W := by
  cases W with
  | dat d => exact Rd.mono hk r
  | lst ds =>
    obtain ⟨a, vs, n, e, hl', hg, hr⟩ := r
    exact ⟨a, vs, n, e, hl.trans hl', ho _ (mem_lookup hl') _ hg, hr.mono hk⟩
  | acc ds i =>
    obtain ⟨a, vs, n, dx, od, e, hl', hg, hr, hd, hi⟩ := r
    exact ⟨a, vs, n, dx, od, e, hl.trans hl', ho _ (mem_lookup hl') _ hg, hr.mono hk, hk _ _ hd, hi⟩

theorem spliced_evvs {pos : Pos} : ∀ {es : List Expr} {ws : List (Str × Vl)}, EvVs G Γ σ es ws → ∀ {k o s} {Q : List Value → Shared → Prop} {E}, St G Γ σ k o s →
    (∀ k' o' s' vs, St G Γ σ k' o' s' → Grs Γ k o s k' o' s' → (∀ y, y ∉ ws.map (·.1) → o'.lookup y = o.lookup y) → (∀ p ∈ o, ∀ ob, s.heap.get? p.2 = some ob → s'.heap.get? p.2 = some ob) → VRds k' o' s'.heap vs ws → Q vs s') → wpAny G.M Γ.A (spliced (backTo pos (starEach es Γ.env))) Q E s
  | _, _, .nil, k, o, s, Q, E, st, h => Calls.spliced_nil (h k o s [] st (.ofV (Gr.refl st.ok V)) (fun _ _ => rfl) (fun _ _ _ e => e) .nil)
  | _, _, .cons he h hx r, k, o, s, Q, E, st, hq => by
    rw [he]
    refine Calls.spliced_cons (h k o s _ E st fun k₁ o₁ s₁ v st₁ g₁ hl₁ ho₁ r₁ => ?_)
    refine spliced_evvs r st₁ fun k₂ o₂ s₂ vs st₂ g₂ hl₂ ho₂ r₂ => ?_
    refine hq k₂ o₂ s₂ _ st₂ (g₁.trans g₂) (fun y hy => ?_) (fun p hp ob e => ?_) (.cons (r₁.turn g₂.gr.ext (hl₂ _ hx) ho₂) r₂)
    · have : y ≠ _ ∧ y ∉ _ := not_or.mp (by simpa only [List.map_cons, List.mem_cons] using hy)
      rw [hl₂ y this.2, hl₁ y this.1]
    · by_cases hm : p.2 ∈ Mine.own o₁
      · obtain ⟨p', hp', e'⟩ := List.mem_map.mp hm
        have := ho₂ p' hp' ob (by rw [e']; exact ho₁ p hp ob e)
        rw [e'] at this
        exact this
      · refine g₂.gr.keep _ _ (fun hm' => ?_) (ho₁ p hp ob e)
        rcases List.mem_append.mp hm' with q | q
        · rcases List.mem_append.mp q with q | q
          · exact (st.ownk p hp).2.1 q
          · exact hm q
        · obtain ⟨_, _, ob', h2, h3⟩ := st.ownk p hp
          exact (st.ok.tab.away h2 h3).1 q

/-- stores, one behind the other -/
inductive Stores (Γ : Cx) : Sto → List (Str × Vl) → Sto → Prop
  | nil {σ : Sto} : Stores Γ σ [] σ
  | cons {σ σ' : Sto} {x : Str} {W : Vl} {ws : List (Str × Vl)} (hx : Place Γ x) (r : Stores Γ (upd σ x W) ws σ') : Stores Γ σ ((x, W) :: ws) σ'

theorem Grs.keepOwn {k o s k' s'} (st : St G Γ σ k o s) (g : Grs Γ k o s k' o s') : Part.le k k' := g.gr.ext

theorem VRds.move {k k' : Part} {o : List (Str × Addr)} {h h' : Heap} (hk : Part.le k k') (ho : ∀ p ∈ o, ∀ ob, h.get? p.2 = some ob → h'.get? p.2 = some ob) :
    ∀ {vs : List Value} {ws : List (Str × Vl)}, VRds k o h vs ws → VRds k' o h' vs ws
  | _, _, .nil => .nil
  | _, _, .cons e r => .cons (e.move hk ho) (r.move hk ho)

theorem VRds.length {k : Part} {o : List (Str × Addr)} {h : Heap} : ∀ {vs : List Value} {ws : List (Str × Vl)}, VRds k o h vs ws → vs.length = ws.length
  | _, _, .nil => rfl
  | _, _, .cons _ r => by rw [List.length_cons, List.length_cons, r.length]
theorem VRds.append {k : Part} {o : List (Str × Addr)} {h : Heap} : ∀ {vs vs' : List Value} {ws ws' : List (Str × Vl)}, VRds k o h vs ws → VRds k o h vs' ws' → VRds k o h (vs ++ vs') (ws ++ ws')
  | _, _, _, _, .nil, r => r
  | _, _, _, _, .cons e r, r' => .cons e (r.append r')
theorem VRds.reverse {k : Part} {o : List (Str × Addr)} {h : Heap} : ∀ {vs : List Value} {ws : List (Str × Vl)}, VRds k o h vs ws → VRds k o h vs.reverse ws.reverse
  | _, _, .nil => .nil
  | _, _, .cons e r => by rw [List.reverse_cons, List.reverse_cons]; exact r.reverse.append (.cons e .nil)

theorem stores_go : ∀ {ws : List (Str × Vl)} {σ σ' : Sto}, Stores Γ σ ws σ' → ∀ {vs : List Value} {k o s} {Q : Unit → Shared → Prop} {E}, St G Γ σ k o s → VRds k o s.heap vs ws →
    (∀ s', St G Γ σ' k o s' → Grs Γ k o s k o s' → Q () s') → wpAny G.M Γ.A (assignInOrder (ws.map fun p => bindName Γ.env p.1) vs) Q E s
  | _, _, _, .nil, _, k, o, s, Q, E, st, .nil, hq => wpAny_pure (hq s st (.ofV (Gr.refl st.ok V)))
  | _, _, _, .cons hx r, _, k, o, s, Q, E, st, .cons e rs, hq => by
    refine wpAny_bind (wpAny_holding (bindName_ (store_vl hx st e fun s' st' g hk => ?_)))
    refine stores_go r st' (rs.move (Part.le.refl k) fun p hp ob e => hk _ _ (st.ownk p hp).2.1 e) fun s'' st'' g' => hq s'' st'' (g.trans g')

/-- a tuple of values, each to its name -/
theorem sx_swap {elts es : List Expr} {n m : Nat} {tp vp pos : Pos} {ws : List (Str × Vl)} {names : List Str} (h : EvVs G Γ σ es ws) (hr : Stores Γ σ ws.reverse σ') (hn : names = ws.map (·.1)) (hsz : ws.length ≤ sizeLine)
    (hs : swapsWithSole [.Tuple elts n tp] (.Tuple es m vp) pos.line Γ.env = pure false) (hw : swappedStores [.Tuple elts n tp] (.Tuple es m vp) Γ.env = pure (some names)) :
    Sx G Γ σ (.Assign [.Tuple elts n tp] (.Tuple es m vp) pos) (.next σ') := fun k o s Q E st p => by
  refine Assign_Tuple_swapped ?_ hs hw
  refine Tuple_ (spliced_evvs h st fun k₁ o₁ s₁ vs st₁ g₁ hl ho r => ?_)
  have hlen : vs.length = ws.length := r.length
  refine wpAny_newObj_type ?_ (by show vs.toArray.size ≤ sizeLine; rw [List.size_toArray, hlen]; exact hsz)
  have g₂ := Gr.keeps (t := s₁.toks) st₁.ok (h' := s₁.heap.push (seqO "tuple" vs.toArray 0)) (fun b o e => Heap.get?_push_of_some _ e) V st₁.ok.tk
  have st₂ := st₁.grow g₂
  have ht : IsTup (s₁.heap.push (seqO "tuple" vs.toArray 0)) s₁.heap.objs.size vs.toArray := ⟨_, Heap.get?_push_size _ rfl, rfl, 0, rfl⟩
  have hnl : names.length = vs.toArray.size := by rw [hn, List.length_map, List.size_toArray, hlen]
  show wpAny _ _ (unpackItems (.ref s₁.heap.objs.size) names.length none) _ _ _
  rw [hnl]
  refine PyProof.Rows.unpackItems_tuple st.rm.hh ht fun h' he => ?_
  have hk : ∀ b ob, s₁.heap.get? b = some ob → h'.get? b = some ob := fun b ob e => by
    have e' := Heap.get?_push_of_some (seqO "tuple" vs.toArray 0) e
    exact he b ob (Nat.ne_of_lt (Heap.lt_size e')) e'
  have g₃ := Gr.keeps (t := s₁.toks) st₁.ok (h' := h') hk V st₁.ok.tk
  have st₃ := st₁.grow g₃
  subst hn
  rw [← List.map_reverse, List.map_map]
  refine stores_go hr st₃ ?_ fun s₄ st₄ g₄ => p k₁ o₁ s₄ st₄ ((g₁.trans (.ofV g₃)).trans g₄)
  exact (r.move (Part.le.refl k₁) fun p _ ob e => hk _ _ e).reverse

/-- an owned value to one name -/
theorem sx_assignV {x : Str} {px pos : Pos} {e : Expr} {W : Vl} (h : EvV G Γ σ e x W) (hx : Place Γ x) (hs : swapsWith e (some (.Name x px)) pos.line Γ.env = pure false) : Sx G Γ σ (.Assign [.Name x px] e pos) (.next (upd σ x W)) :=
  fun k o s Q E st p => wpAny_Assign_Name (h k o s _ E st fun k' o' s' v st' g _ _ r => store_vl hx st' r fun s'' st'' g'' _ => p k' o' s'' st'' (g.trans g'')) hs
end
end Mine

namespace Mine
open PySem PySem.Calls PySem.Spec PyProof.Rows
set_option maxRecDepth 100000
set_option linter.unusedVariables false
set_option linter.unusedSimpArgs false

theorem nodup_snd {α β : Type} : ∀ {l : List (α × β)}, (l.map (·.2)).Nodup → ∀ {x y : α} {b : β}, (x, b) ∈ l → (y, b) ∈ l → x = y
  | p :: l, h, x, y, b, h1, h2 => by
    rw [List.map_cons, List.nodup_cons] at h
    rcases List.mem_cons.mp h1 with e1 | h1
    · rcases List.mem_cons.mp h2 with e2 | h2
      · rw [← e2] at e1; cases e1; rfl
      · exact absurd (List.mem_map_of_mem (f := (·.2)) h2) (by rw [← e1] at h; exact h.1)
    · rcases List.mem_cons.mp h2 with e2 | h2
      · exact absurd (List.mem_map_of_mem (f := (·.2)) h1) (by rw [← e2] at h; exact h.1)
      · exact nodup_snd h.2 h1 h2
theorem lookup_filter {o : List (Str × Addr)} {y : Str} {a b : Addr} (h : o.lookup y = some b) (hb : b ≠ a) : (o.filter (fun p => decide (p.2 ≠ a))).lookup y = some b := by
  induction o with
  | nil => simp at h
  | cons p r ih =>
    obtain ⟨x, c⟩ := p
    rw [List.lookup_cons] at h
    cases q : y == x with
    | true =>
      rw [q] at h; simp at h; subst h
      rw [List.filter_cons, if_pos (by simpa using hb), List.lookup_cons, q]
    | false =>
      rw [q] at h
      rw [List.filter_cons]
      split
      · rw [List.lookup_cons, q]; exact ih h
      · exact ih h

section
variable {G : Gd} {Γ : Cx} {σ σ' σ₁ σ₂ : Sto} {out : Out}

noncomputable def tgt (p : Str × Pos) : Expr := .Name p.1 p.2

theorem rds_vrds {k : Part} {o : List (Str × Addr)} {h : Heap} : ∀ {vs : List Value} {ds : List D}, Rds k vs ds → ∀ {xs : List Str}, xs.length = ds.length → VRds k o h vs (xs.zip (ds.map .dat))
  | _, _, .nil, xs, e => by rw [List.length_nil] at e; rw [List.length_eq_zero_iff.mp e]; exact .nil
  | _, _, .cons h r, [], e => by simp at e
  | _, _, .cons h r, x :: xs, e => .cons h (rds_vrds r (by simpa using e))

theorem each_tgt {env : Env} : ∀ {ts : List (Str × Pos)}, assignEach (ts.map tgt) env = ts.map fun p => (false, assign (tgt p) env)
  | [] => rfl
  | p :: ts => by
    rw [List.map_cons, List.map_cons, ← each_tgt (ts := ts)]
    rfl

theorem stores_go' : ∀ {ts : List (Str × Pos)} {ws : List (Str × Vl)} {σ σ' : Sto}, Stores Γ σ ws σ' → ts.map (·.1) = ws.map (·.1) → ∀ {vs : List Value} {k o s} {Q : Unit → Shared → Prop} {E}, St G Γ σ k o s → VRds k o s.heap vs ws →
    (∀ s', St G Γ σ' k o s' → Grs Γ k o s k o s' → Q () s') → wpAny G.M Γ.A (assignInOrder (ts.map fun p => assign (tgt p) Γ.env) vs) Q E s
  | [], _, _, _, .nil, _, _, k, o, s, Q, E, st, .nil, hq => wpAny_pure (hq s st (.ofV (Gr.refl st.ok V)))
  | p :: ts, _, _, _, .nil, he, _, k, o, s, Q, E, st, _, hq => by simp at he
  | [], _, _, _, .cons hx r, he, _, k, o, s, Q, E, st, .cons e rs, hq => by simp at he
  | (y, py) :: ts, _, _, _, .cons (x := x) hx r, he, _, k, o, s, Q, E, st, .cons e rs, hq => by
    rw [List.map_cons, List.map_cons] at he
    have he' := List.cons.inj he
    obtain ⟨rfl, he'⟩ := he'
    refine wpAny_bind (wpAny_holding (wpAny_assign_Name (store_vl hx st e fun s' st' g hk => ?_)))
    refine stores_go' r he' st' (rs.move (Part.le.refl k) fun p hp ob e => hk _ _ (st.ownk p hp).2.1 e) fun s'' st'' g' => hq s'' st'' (g.trans g')

theorem asg_tuple {ts : List (Str × Pos)} {n : Nat} {pos : Pos} {ds : List D} (hl : ts.length = ds.length) (hr : Stores Γ σ ((ts.map (·.1)).zip (ds.map .dat)) σ') : Asg G Γ σ (.Tuple (ts.map tgt) n pos) (.tup ds) σ' := fun k o s Q E v st r hq => by
  cases r with
  | @tup t vs m _ hk hr' =>
  rw [PyProof.Rows.assign_Tuple]
  refine wpAny_bind (wpAny_standAt ?_)
  unfold unpack
  refine wpAny_bind (wpAny_holding ?_)
  have ht : IsTup s.heap t vs.toArray := ⟨_, st.ok.sub _ _ hk, rfl, m, rfl⟩
  have e1 : (assignEach (ts.map tgt) Γ.env).length = vs.toArray.size := by rw [each_tgt, List.length_map, List.size_toArray, hr'.length, hl]
  have e2 : (assignEach (ts.map tgt) Γ.env).findIdx? (·.1) = none := by rw [each_tgt]; simp [List.findIdx?_eq_none_iff]
  rw [e1, e2]
  refine PyProof.Rows.unpackItems_tuple st.rm.hh ht fun h' he => ?_
  have hkp : ∀ b ob, s.heap.get? b = some ob → h'.get? b = some ob := fun b ob e => he b ob (Nat.ne_of_lt (Heap.lt_size e)) e
  have g₃ := Gr.keeps (t := s.toks) st.ok (h' := h') hkp V st.ok.tk
  have st₃ := st.grow g₃
  rw [each_tgt, List.map_map]
  refine stores_go' (ts := ts) hr ?_ st₃ ((rds_vrds hr' (by rw [List.length_map]; exact hl)).move (Part.le.refl k) fun p _ ob e => e) fun s₄ st₄ g₄ => hq k s₄ st₄ ((Grs.ofV g₃).trans g₄)
  rw [List.map_fst_zip (by simp [hl])]

theorem sx_unpack {ts : List (Str × Pos)} {n : Nat} {tp pos : Pos} {e : Expr} {ds : List D} (h : Ev G Γ σ e (.tup ds)) (hl : ts.length = ds.length) (hr : Stores Γ σ ((ts.map (·.1)).zip (ds.map .dat)) σ')
    (hs : swapsWithSole [.Tuple (ts.map tgt) n tp] e pos.line Γ.env = pure false) (hw : swappedStores [.Tuple (ts.map tgt) n tp] e Γ.env = pure none) : Sx G Γ σ (.Assign [.Tuple (ts.map tgt) n tp] e pos) (.next σ') := fun k o s Q E st p =>
  Assign_Tuple (h k o s _ E st fun k' s' v g r => asg_tuple hl hr k' o s' _ E v (st.grow g) r fun k'' s'' st'' g'' => p k'' o s'' st'' ((Grs.ofV g).trans g'')) hs hw

theorem sx_aug {x : Str} {px pos : Pos} {op : Operator} {e : Expr} {a b c : D} (hx : σ.lookup x = some (.dat a)) (h : Ev G Γ σ e b) (hp : Place Γ x)
    (hop : Act G Γ.n (fun vs => inplaceOp op (vs.getD 0 .none) (vs.getD 1 .none)) [a, b] c) (hn : (x == ("__classdict__" : Str)) = false := by decide) : Sx G Γ σ (.AugAssign (.Name x px) op e pos) (.next (upd σ x (.dat c))) := fun k o s Q E st p => by
  refine wpAny_AugAssign_Name (load_var st hx (fun v r => h k o s _ E st fun k₁ s₁ u g₁ r₁ => ?_) hn)
  exact hop Γ.A k₁ s₁ [v, u] _ E st.rm (st.ok.grow g₁) (.cons (Rd.mono g₁.ext r) (.cons r₁ .nil)) fun k₂ s₂ z g₂ r₂ => store_dat hp (st.grow (g₁.trans g₂)) r₂ fun s₃ st₃ g₃ => p k₂ o s₃ st₃ ((Grs.ofV (g₁.trans g₂)).trans g₃)

/-- an owned thing becomes a frozen one -/
theorem St.freeze {k o s} (st : St G Γ σ k o s) {x : Str} {ds : List D} (hx : σ.lookup x = some (.lst ds)) :
    ∃ a vs n o', k a = none ∧ a ∉ V ∧ St G Γ (upd σ x (.dat (.list ds))) (k.put a (seqO "list" vs n)) o' s ∧ Grs Γ k o s (k.put a (seqO "list" vs n)) o' s := by
  obtain ⟨m, hns, hv⟩ := st.vars
  obtain ⟨v, hw, a, vs, n, rfl, hla, hg, hr⟩ := hv x _ hx
  obtain ⟨hka, hma, ob, hob, hnf⟩ := st.ownk _ (mem_lookup hla)
  have hle : Part.le k (k.put a (seqO "list" vs n)) := fun b o' e => by
    unfold Part.put
    split
    · rename_i h; subst h; rw [hka] at e; cases e
    · exact e
  have hin : (k.put a (seqO "list" vs n)).inH s.heap := fun b o' e => by
    unfold Part.put at e
    split at e
    · rename_i h; subst h; cases e; exact hg
    · exact st.ok.sub b o' e
  have hvol : ∀ b ∈ V, (k.put a (seqO "list" vs n)) b = none := fun b hb => by
    unfold Part.put
    split
    · rename_i h; subst h
      exact absurd hb (st.ok.tab.away hob hnf).1
    · exact st.ok.vol b hb
  have hput : ∀ b, b ≠ a → (k.put a (seqO "list" vs n)) b = k b := fun b hb => by unfold Part.put; rw [if_neg hb]
  refine ⟨a, vs, n, o.filter (fun p => decide (p.2 ≠ a)), hka, (st.ok.tab.away hob hnf).1, ⟨⟨st.ok.base.trans hle, hin, hvol, st.ok.bare, st.ok.tab, st.ok.tk⟩, st.rm, st.fn, st.gl, st.bl, fun b hb => ?_, st.locm, ⟨m, hns, fun y W e => ?_⟩, fun p hp => ?_, ?_, st.cel, st.celd⟩, ⟨⟨hle, hin, hvol, fun b o' e => ?_, fun b o' _ e => e, fun b o' e => ⟨o', e⟩, rfl, st.ok.bare, st.ok.tab, st.ok.tk⟩, fun p hp => .inl (List.mem_map_of_mem (List.mem_filter.mp hp).1)⟩⟩
  · obtain ⟨h1, r⟩ := st.mutk b hb
    exact ⟨by rw [hput b (fun q => hma (q ▸ hb))]; exact h1, r⟩
  · rw [lookup_upd] at e
    by_cases hy : y = x
    · subst hy
      rw [if_pos rfl] at e; cases e
      exact ⟨_, hw, .list (vs := vs.toList) (n := n) (by rw [Part.put_self]) (hr.mono hle)⟩
    · rw [if_neg hy] at e
      obtain ⟨v', hw', hr'⟩ := hv y W e
      have look : ∀ b, o.lookup y = some b → (o.filter (fun p => decide (p.2 ≠ a))).lookup y = some b := fun b hb => by
        have hba : b ≠ a := fun q => by
          subst q
          have h1 := mem_lookup hb
          have h2 := mem_lookup hla
          have hnd := st.ownd
          clear hr' e hb hla
          exact hy (nodup_snd hnd h1 h2)
        exact lookup_filter hb hba
      refine ⟨v', hw', ?_⟩
      cases W with
      | dat d => exact Rd.mono hle hr'
      | lst ds' =>
        obtain ⟨b, vs', n', e1, hl, hg', r'⟩ := hr'
        exact ⟨b, vs', n', e1, look b hl, hg', r'.mono hle⟩
      | acc ds' i =>
        obtain ⟨b, vs', n', dx, od, e1, hl, hg', r', hd, hi⟩ := hr'
        exact ⟨b, vs', n', dx, od, e1, look b hl, hg', r'.mono hle, hle _ _ hd, hi⟩
  · have hp' := List.mem_filter.mp hp
    obtain ⟨h1, h2, r⟩ := st.ownk p hp'.1
    exact ⟨by rw [hput p.2 (by simpa using hp'.2)]; exact h1, h2, r⟩
  · exact st.ownd.sublist ((List.filter_sublist).map _)
  · by_cases hb : b = a
    · subst hb; exact .inr (.inl (List.mem_append.mpr (.inl (List.mem_append.mpr (.inr (List.mem_map_of_mem (mem_lookup hla)))))))
    · rw [hput b hb] at e; exact .inl e
end
end Mine

namespace Mine
open PySem PySem.Calls PySem.Spec PyProof.Rows
set_option maxRecDepth 100000
set_option linter.unusedVariables false
set_option linter.unusedSimpArgs false

section
variable {G : Gd} {Γ : Cx} {σ σ' σ₁ σ₂ : Sto} {out : Out}

theorem VRd.move1 {k k' : Part} {o : List (Str × Addr)} {h h' : Heap} {x : Str} {v : Value} {W : Vl} (r : VRd k o h x v W) (hk : Part.le k k')
    (ho : ∀ b, o.lookup x = some b → ∀ ob, h.get? b = some ob → h'.get? b = some ob) : VRd k' o h' x v W := by
  cases W with
  | dat d => exact Rd.mono hk r
  | lst ds =>
    obtain ⟨a, vs, n, e, hl', hg, hr⟩ := r
    exact ⟨a, vs, n, e, hl', ho _ hl' _ hg, hr.mono hk⟩
  | acc ds i =>
    obtain ⟨a, vs, n, dx, od, e, hl', hg, hr, hd, hi⟩ := r
    exact ⟨a, vs, n, dx, od, e, hl', ho _ hl' _ hg, hr.mono hk, hk _ _ hd, hi⟩

/-- the owned thing of x turns -/
theorem St.turn {k k' o s s'} (st : St G Γ σ k o s) {x : Str} {a : Addr} {W₀ W : Vl} (hx : σ.lookup x = some W₀) (ha : o.lookup x = some a) (h0 : ∀ v, VRd k o s.heap x v W₀ → v = .ref a)
    (hsq : ∃ ob vs n, s.heap.get? a = some ob ∧ ob.data = .seq vs n) (g : Gr (a :: V) k s k' s') (hk' : k' a = none) (hob : ∃ ob, s'.heap.get? a = some ob ∧ notFields ob) (r : VRd k' o s'.heap x (.ref a) W) :
    St G Γ (upd σ x W) k' o s' ∧ Grs Γ k o s k' o s' := by
  have hao := mem_lookup ha
  obtain ⟨hka, hma, ob₀, hob₀, hnf₀⟩ := st.ownk _ hao
  have notV : ∀ b ob, s.heap.get? b = some ob → notFields ob → b ∉ V := fun b ob e hf => (st.ok.tab.away e hf).1
  have keep : ∀ b ob, b ≠ a → s.heap.get? b = some ob → notFields ob → s'.heap.get? b = some ob := fun b ob hb e hf => g.keep b ob (fun hm => by
    rcases List.mem_cons.mp hm with q | q
    · exact hb q
    · exact notV b ob e hf q) e
  have none' : ∀ b ob, b ≠ a → k b = none → s.heap.get? b = some ob → notFields ob → k' b = none := fun b ob hb h e hf => by
    cases e' : k' b with
    | none => rfl
    | some o' =>
      rcases g.new b o' e' with q | q | q
      · rw [h] at q; cases q
      · rcases List.mem_cons.mp q with q | q
        · exact absurd q hb
        · exact absurd q (notV b ob e hf)
      · rw [q] at e; cases e
  refine ⟨⟨st.ok.grow g, st.rm, st.fn, st.gl, st.bl, fun b hb => ?_, st.locm, ?_, fun p hp => ?_, st.ownd, fun y c hc => ?_, st.celd⟩, ⟨g.mono fun b hb => ?_, fun p hp => .inl (List.mem_map_of_mem hp)⟩⟩
  · obtain ⟨h1, ob, h2, h3⟩ := st.mutk b hb
    have hba : b ≠ a := fun q => hma (q ▸ hb)
    exact ⟨none' b ob hba h1 h2 h3, ob, keep b ob hba h2 h3, h3⟩
  · obtain ⟨m, hns, hv⟩ := st.vars
    obtain ⟨ob, h2, h3⟩ := Heap.Ns.obj hns
    have hla : Γ.env.locals ≠ a := fun q => hma (q ▸ st.locm)
    have cells : ∀ c v, s.heap.IsCell c v → s'.heap.IsCell c v := fun c v ⟨oc, hoc, hd⟩ => ⟨oc, keep c oc (fun q => by
      obtain ⟨ob, vs, n, e1, e2⟩ := hsq
      rw [q, e1] at hoc; cases hoc; rw [e2] at hd; cases hd) hoc (fun vs q => by rw [hd] at q; cases q), hd⟩
    refine ⟨m, hns.at' fun o' e => ?_, fun y W' e => ?_⟩
    · rw [h2] at e; cases e; exact keep _ _ hla h2 h3
    · rw [lookup_upd] at e
      by_cases hy : y = x
      · subst hy
        rw [if_pos rfl] at e; cases e
        obtain ⟨v, hw, hr⟩ := hv y _ hx
        have := h0 v hr
        subst this
        exact ⟨_, hw.imp id fun ⟨q, c, hc, hcell⟩ => ⟨q, c, hc, cells c _ hcell⟩, r⟩
      · rw [if_neg hy] at e
        obtain ⟨v, hw, hr⟩ := hv y W' e
        refine ⟨v, hw.imp id fun ⟨q, c, hc, hcell⟩ => ⟨q, c, hc, cells c _ hcell⟩, hr.move1 g.ext fun b hb ob e' => ?_⟩
        have h1 := mem_lookup hb
        obtain ⟨_, _, ob', h2', h3'⟩ := st.ownk _ h1
        have : ob' = ob := Option.some.inj (h2'.symm.trans e')
        subst this
        exact keep _ _ (fun q => hy (nodup_snd st.ownd (q ▸ h1) hao)) e' h3'
  · by_cases q : p.2 = a
    · rw [q]; exact ⟨hk', hma, hob⟩
    · obtain ⟨h1, h2, ob, h3, h4⟩ := st.ownk p hp
      exact ⟨none' _ ob q h1 h3 h4, h2, ob, keep _ ob q h3 h4, h4⟩
  · obtain ⟨v, oc, hoc, hd⟩ := st.cel y c hc
    exact ⟨v, oc, keep c oc (fun q => by
      obtain ⟨ob, vs, n, e1, e2⟩ := hsq
      rw [q, e1] at hoc; cases hoc; rw [e2] at hd; cases hd) hoc (fun vs q => by rw [hd] at q; cases q), hd⟩
  · rcases List.mem_cons.mp hb with rfl | hb
    · exact List.mem_append.mpr (.inl (List.mem_append.mpr (.inr (List.mem_map_of_mem hao))))
    · exact List.mem_append.mpr (.inr hb)

theorem ex_freeze {x : Str} {ds : List D} {body : List Stmt} (hx : σ.lookup x = some (.lst ds)) (h : Ex G Γ (upd σ x (.dat (.list ds))) body out) : Ex G Γ σ body out := fun k o s Q E st p => by
  obtain ⟨_, _, _, o', _, _, st', g⟩ := st.freeze hx
  exact h _ o' s Q E st' (p.after g)
theorem sx_freeze {x : Str} {ds : List D} {y : Stmt} (hx : σ.lookup x = some (.lst ds)) (h : Sx G Γ (upd σ x (.dat (.list ds))) y out) : Sx G Γ σ y out := fun k o s Q E st p => by
  obtain ⟨_, _, _, o', _, _, st', g⟩ := st.freeze hx
  exact h _ o' s Q E st' (p.after g)

/-- xs.append(e) -/
theorem Gr.ofSame {k : Part} {s : Shared} (ok : Ok G k s) {a : Addr} {h' : Heap} {t : Nat} (hk : k a = none) {ob : Obj} (hob : s.heap.get? a = some ob) (hnf : notFields ob) (hs : Heap.SameBut a s.heap h') (ho : ∃ o, h'.get? a = some o) (ht : 0 < t := by first | exact Nat.succ_pos _ | exact Ok.tk ‹_› | assumption) :
    Gr (a :: V) k s k { s with heap := h', toks := t } :=
  (Gr.only ok hk (let ⟨_, a, b, c, d⟩ := ok.tab.away hob hnf; ⟨c, a, d, b⟩) (fun b o hb e => (hs.2 b hb).trans e) ho ht).mono fun b hb => by
    simp only [List.mem_cons, List.not_mem_nil, or_false] at hb; subst hb; exact .head _

theorem sx_append {x : Str} {px apos cpos pos : Pos} {e : Expr} {ds : List D} {d : D} (hx : σ.lookup x = some (.lst ds)) (h : Ev G Γ σ e d) (hsz : ds.length ≤ sizeLine)
    (hse : ∀ env rest, starEach (e :: rest) env = (false, eval e env) :: starEach rest env)
    (hbase : attributeBase (.Name x px) ("append" : Str) Γ.env (eval (.Name x px) Γ.env) = eval (.Name x px) Γ.env)
    (hfew : ((backTo cpos (starEach [e] Γ.env)).all (fun x => !x.1) && (backToKw cpos (keywordEach [] Γ.env)).all (fun x => x.1.isSome)
      && decide ([e].length + ([] : List Keyword).length + (if ([] : List Keyword).isEmpty then 0 else 1) < 30)) = true)
    (hline : (apos.endLine == cpos.line) = true) (hi : interactive Γ.env = false) (hs : swapsWith (.Call (.Attribute (.Name x px) ("append" : Str) apos) [e] [] cpos) none pos.line Γ.env = pure false)
    (hd : (x == ("__debug__" : Str)) = false := by decide) (hn : (x == ("__classdict__" : Str)) = false := by decide) :
    Sx G Γ σ (.Expr (.Call (.Attribute (.Name x px) ("append" : Str) apos) [e] [] cpos) pos) (.next (upd σ x (.lst (ds ++ [d])))) := fun k o s Q E st p => by
  refine wpAny_Expr_any ?_ hi hs
  refine wpAny_Call_method hbase hfew hline F.plainAttrs_list F.slot_list_append (by show builtinType _ = _; rw [builtinType_eq_fast]; kernel_rfl) (wpAny_Name (load_var st hx (fun v r => ?_) hn) hd)
  obtain ⟨a, vs, n, rfl, hl, hg, hr⟩ := r
  refine ⟨⟨_, hg, rfl⟩, fun y e => by cases e; exact ⟨_, hg, rfl⟩, ?_⟩
  refine Calls.callWith_builtin (plain_evs (.cons hse h .nil)) (evalArgs_evs (.cons hse h .nil) st fun k₁ s₁ us g₁ r₁ => ?_)
  cases r₁ with
  | cons h1 r1 =>
  cases r1
  rename_i u
  have st₁ := st.grow g₁
  have hao := mem_lookup hl
  have hg₁ := own_keeps st g₁ _ hao _ hg
  refine wpAny_list_append_plain ⟨n, hg₁⟩ (fun h' hp hsb => ?_) (by rw [← Array.length_toList, hr.length]; exact hsz)
  obtain ⟨n', hp⟩ := hp
  obtain ⟨hka, _, _, _, _⟩ := st₁.ownk _ hao
  have g₂ := Gr.ofSame (t := s₁.toks) st₁.ok hka hg₁ (fun vs e => by cases e) hsb ⟨_, hp⟩ st₁.ok.tk
  obtain ⟨st₂, gs⟩ := st₁.turn (W := .lst (ds ++ [d])) hx hl (fun v ⟨b, _, _, e, hb, _⟩ => by rw [hl] at hb; cases hb; exact e) ⟨_, _, _, hg₁, rfl⟩ g₂ hka ⟨_, hp, fun vs e => by cases e⟩
    ⟨a, _, n', rfl, hl, hp, by rw [Array.toList_push]; exact (hr.mono g₁.ext).append (.cons h1 .nil)⟩
  exact p k₁ o _ st₂ ((Grs.ofV g₁).trans gs)
end
end Mine

namespace Mine
open PySem PySem.Calls PySem.Spec PyProof.Rows
set_option maxRecDepth 100000
set_option linter.unusedVariables false
set_option linter.unusedSimpArgs false

noncomputable abbrev txts (ls : List (List Nat)) : List D := ls.map fun l => .str (S l)

theorem rds_strs {k : Part} : ∀ {ls : List (List Nat)} {vs : List Value}, Rds k vs (txts ls) → StrsAre vs (ls.map S)
  | [], _, .nil => .nil
  | l :: ls, _, .cons h r => by
    cases h with
    | str x t => exact .cons _ t (rds_strs r)
theorem strs_rds {k : Part} : ∀ {vs : List Value} {ss : List Str}, StrsAre vs ss → Rds k vs (txts (ss.map fun x => x.cps.toList))
  | _, _, .nil => .nil
  | _, _, .cons x t h => .cons (show Rd k (.str x t) (.str (S x.cps.toList)) by rw [← S_of]; exact .str x t) (strs_rds h)

theorem strs_vals {vs : List Value} {ss : List Str} (h : StrsAre vs ss) : ∃ l : List (Str × Tok), vs = strValues l ∧ l.map (·.1) = ss := by
  induction h with
  | nil => exact ⟨[], rfl, rfl⟩
  | cons x t _ ih => obtain ⟨l, e1, e2⟩ := ih; exact ⟨(x, t) :: l, by rw [e1]; rfl, by rw [List.map_cons, e2]⟩
theorem vals_strs {k : Part} (l : List (Str × Tok)) : Rds k (strValues l) ((l.map (·.1)).map .str) := by
  induction l with
  | nil => exact .nil
  | cons p l ih => exact .cons (.str _ _) ih

noncomputable def joinL (sep : List Nat) : List (List Nat) → List Nat
  | [] => []
  | x :: xs => xs.foldl (fun acc p => acc ++ sep ++ p) x
theorem join_S (sep : List Nat) : ∀ ls : List (List Nat), Txt.join (S sep) (ls.map S) = S (joinL sep ls)
  | [] => rfl
  | x :: xs => by
    show (⟨((xs.map S)).foldl (fun acc p => acc ++ (S sep).cps ++ p.cps) (S x).cps⟩ : Str) = _
    have : ∀ (xs : List (List Nat)) (x : List Nat), (xs.map S).foldl (fun acc p => acc ++ (S sep).cps ++ p.cps) x.toArray = (xs.foldl (fun acc p => acc ++ sep ++ p) x).toArray := fun xs => by
      induction xs with
      | nil => intro x; rfl
      | cons y ys ih =>
        intro x
        rw [List.map_cons, List.foldl_cons, List.foldl_cons, ← ih]
        congr 1
        simp
    rw [this xs x]; rfl

noncomputable def sizes (sep : List Nat) (ls : List (List Nat)) : Nat := ls.foldl (fun a l => a + l.length + sep.length) 0

theorem seqIndex_nat (i n : Nat) (h : i < n) : seqIndex? (i : Int) n = some i := by
  unfold seqIndex?
  simp
  omega

section
variable {G : Gd} {n : Nat}

theorem join_ls (sep : List Nat) (ls : List (List Nat)) (h : sizes sep ls ≤ sizeLine) : Act G n (fun vs => call (.builtin "str.join") vs) [.str (S sep), .list (txts ls)] (.str (S (joinL sep ls))) := act2 fun A k s v u Q E rm ok h1 h2 hq => by
  cases h1
  obtain ⟨a, vs, m, rfl, hl, hr⟩ := isL_of ok h2
  obtain ⟨l, rfl, e⟩ := strs_vals (rds_strs hr)
  refine SC.join hl.isList e ?_ fun t' tk => ?_
  · have : ∀ (ls : List (List Nat)) (a : Nat), (ls.map S).foldl (fun x1 x2 => x1 + x2.length + (S sep).length) a = ls.foldl (fun a l => a + l.length + sep.length) a := fun ls => by
      induction ls with
      | nil => intro a; rfl
      | cons y ys ih => intro a; rw [List.map_cons, List.foldl_cons, List.foldl_cons, ih, S_length, S_length]
    unfold JoinOk
    rw [List.foldl_toArray, this]
    have hs := sizeLine_eq
    show (!Builtin.Str.tooLong (sizes sep ls)) = true
    unfold Builtin.Str.tooLong
    simp
    omega
  · rw [join_S]; exact hq _ _ (.str _ _)

theorem starts_ss (x y : List Nat) : Act G n (fun vs => call (.builtin "str.startswith") vs) [.str (S x), .str (S y)] (.bool (Txt.startswith (S x) (S y))) := act2 fun A k s v u Q E rm ok h1 h2 hq => by
  cases h1; cases h2; exact SC.startswith (hq _ s.toks (.bool _))
theorem ends_ss (x y : List Nat) : Act G n (fun vs => call (.builtin "str.endswith") vs) [.str (S x), .str (S y)] (.bool (Txt.endswith (S x) (S y))) := act2 fun A k s v u Q E rm ok h1 h2 hq => by
  cases h1; cases h2; exact SC.endswith (hq _ s.toks (.bool _))
theorem find_ss (x y : List Nat) : Act G n (fun vs => call (.builtin "str.find") vs) [.str (S x), .str (S y)] (.int (Txt.find (S x) (S y))) := act2 fun A k s v u Q E rm ok h1 h2 hq => by
  cases h1; cases h2; exact SC.find (hq _ _ (.int _ _))
noncomputable def find3 (x y : List Nat) (i j : Int) : Int := match Builtin.Str.occurrences (S x) (S y) (fromIndex (S x).length i) (min (fromIndex (S x).length j) (S x).length) 1 with | k :: _ => (k : Int) | [] => -1
theorem gives_find3 (x y : Str) (i j : Int) (t u v w : Tok) : Gives (Builtin.«str.find» ⟨[.str x t, .str y u, .int i v, .int j w], []⟩) (.int (match Builtin.Str.occurrences x y (fromIndex x.length i) (min (fromIndex x.length j) x.length) 1 with | k :: _ => (k : Int) | [] => -1)) := by
  show Gives (match Builtin.Str.occurrences x y (fromIndex x.length i) (min (fromIndex x.length j) x.length) 1 with | k :: _ => retInt k | [] => (do rule "str.find.not-found"; retInt (-1))) _
  cases Builtin.Str.occurrences x y (fromIndex x.length i) (min (fromIndex x.length j) x.length) 1 with
  | nil => exact .rule (.of_eq rfl)
  | cons k _ => exact .of_eq rfl
theorem find_ssii (x y : List Nat) (i j : Int) : Act G n (fun vs => call (.builtin "str.find") vs) [.str (S x), .str (S y), .int i, .int j] (.int (find3 x y i j)) := fun A k s vs Q E rm ok r hq => by
  cases r with
  | cons h1 r => cases r with
  | cons h2 r => cases r with
  | cons h3 r => cases r with
  | cons h4 r =>
  cases r; cases h1; cases h2; cases h3; cases h4
  exact call_gives F.slot_str_find (typeIs_str _ _ _) F.entry_str_find (F.args_str_find_4 _ _ _ _) (gives_find3 _ _ _ _ _ _ _ _) (hq k _ _ (Gr.keeps ok (fun _ _ e => e) V) (.int _ _))

theorem item_s (l : List Nat) (i : Nat) (c : Nat) (h : l[i]? = some c) (hsz : l.length ≤ sizeLine) : Act G n (fun vs => getItem (vs.getD 0 .none) (vs.getD 1 .none)) [.str (S l), .int i] (.str (S [c])) := act2 fun A k s v u Q E rm ok h1 h2 hq => by
  cases h1; cases h2
  have hi : i < l.length := by
    rcases Nat.lt_or_ge i l.length with q | q
    · exact q
    · rw [List.getElem?_eq_none q] at h; cases h
  have hs : sizeLine = 16777216 := sizeLine_eq
  refine PyProof.Rows.getItem_str ?_ ?_ (hq _ _ (.str _ _))
  · simp; omega
  · rw [S_length, seqIndex_nat _ _ hi]; simpa using h
theorem item_t (ds : List D) (i : Nat) (d : D) (h : ds[i]? = some d) (hsz : ds.length ≤ sizeLine) : Act G n (fun vs => getItem (vs.getD 0 .none) (vs.getD 1 .none)) [.tup ds, .int i] d := act2 fun A k s v u Q E rm ok h1 h2 hq => by
  cases h1 with
  | @tup a vs m _ hk hr =>
  cases h2
  obtain ⟨x, hx, hrx⟩ := hr.get' h
  have hs : sizeLine = 16777216 := sizeLine_eq
  have hi : i < ds.length := by
    rcases Nat.lt_or_ge i ds.length with q | q
    · exact q
    · rw [List.getElem?_eq_none q] at h; cases h
  refine PyProof.Rows.getItem_tuple (items := vs.toArray) ⟨_, ok.sub _ _ hk, rfl, m, rfl⟩ (by omega) (by omega) (j := i) ?_ (by simpa using hx) (hq _ s.toks hrx)
  rw [List.size_toArray, hr.length, seqIndex_nat _ _ hi]
theorem item_neg (ds : List D) (d : D) (h : ds.getLast? = some d) (hsz : ds.length ≤ sizeLine) : Act G n (fun vs => getItem (vs.getD 0 .none) (vs.getD 1 .none)) [.list ds, .int (-1)] d := act2 fun A k s v u Q E rm ok h1 h2 hq => by
  obtain ⟨a, vs, m, rfl, hl, hr⟩ := isL_of ok h1
  cases h2
  have hs : sizeLine = 16777216 := sizeLine_eq
  rw [List.getLast?_eq_getElem?] at h
  obtain ⟨x, hx, hrx⟩ := hr.get' h
  have hlen := hr.length
  have hpos : 0 < ds.length := by
    rcases Nat.eq_zero_or_pos ds.length with q | q
    · rw [List.length_eq_zero_iff.mp q] at h; simp at h
    · exact q
  refine wpAny_getItem_list_neg hl.isList (by decide) (by rw [List.size_toArray, hlen]; omega) (by decide) (x := x) ?_ (hq _ s.toks hrx)
  have : ((-1 : Int) + (vs.toArray.size : Nat)).toNat = ds.length - 1 := by rw [List.size_toArray, hlen]; omega
  rw [this]; simpa using hx
end
end Mine

namespace Mine
open PySem PySem.Calls PySem.Spec PyProof.Rows
set_option maxRecDepth 100000
set_option linter.unusedVariables false
set_option linter.unusedSimpArgs false

-- a sort of texts
noncomputable def insL (x : List Nat) : List (List Nat) → List (List Nat)
  | [] => [x]
  | y :: r => if y < x then y :: insL x r else x :: y :: r
noncomputable def sortL : List (List Nat) → List (List Nat)
  | [] => []
  | x :: r => insL x (sortL r)
theorem insL_perm (x : List Nat) : ∀ r, (insL x r).Perm (x :: r)
  | [] => .refl _
  | y :: r => by
    unfold insL
    split
    · exact ((insL_perm x r).cons y).trans (.swap x y r)
    · exact .refl _
theorem sortL_perm : ∀ r, (sortL r).Perm r
  | [] => .refl _
  | x :: r => (insL_perm x _).trans ((sortL_perm r).cons x)
theorem nlt_trans {a b c : List Nat} (h1 : ¬ b < a) (h2 : ¬ c < b) : ¬ c < a := fun h => by
  have := List.le_trans (α := Nat) (show a ≤ b from h1) (show b ≤ c from h2)
  exact this h
theorem lt_nlt {a b : List Nat} (h : a < b) : ¬ b < a := fun h' => List.lt_irrefl a (List.lt_trans h h')
theorem insL_sorted (x : List Nat) : ∀ r, r.Pairwise (fun a b => ¬ b < a) → (insL x r).Pairwise (fun a b => ¬ b < a)
  | [], _ => by simp [insL]
  | y :: r, h => by
    have h' := List.pairwise_cons.mp h
    unfold insL
    split
    · rename_i hlt
      refine List.pairwise_cons.mpr ⟨fun z hz => ?_, insL_sorted x r h'.2⟩
      rcases List.mem_cons.mp ((insL_perm x r).mem_iff.mp hz) with rfl | hz
      · exact lt_nlt hlt
      · exact h'.1 z hz
    · rename_i hlt
      refine List.pairwise_cons.mpr ⟨fun z hz => ?_, h⟩
      rcases List.mem_cons.mp hz with rfl | hz
      · exact hlt
      · exact nlt_trans hlt (h'.1 z hz)
theorem sortL_sorted : ∀ r, (sortL r).Pairwise (fun a b => ¬ b < a)
  | [] => .nil
  | x :: r => insL_sorted x _ (sortL_sorted r)
theorem sortL_unique {r r' : List (List Nat)} (hp : r'.Perm r) (hs : r'.Pairwise (fun a b => ¬ b < a)) : r' = sortL r :=
  List.Perm.eq_of_pairwise (le := fun a b => ¬ b < a) (fun a b _ _ h1 h2 => List.le_antisymm (show a ≤ b from h1) (show b ≤ a from h2)) hs (sortL_sorted r) (hp.trans (sortL_perm r).symm)

theorem risingS_pairwise : ∀ (p : Str) (l : List Str), risingS p l = true → (p :: l).Pairwise (fun a b => ¬ b.cps.toList < a.cps.toList)
  | p, [], _ => by simp
  | p, x :: r, h => by
    have h' : (!ltCps x.cps.toList p.cps.toList && risingS x r) = true := h
    simp only [Bool.and_eq_true, Bool.not_eq_true', ltCps_eq, decide_eq_false_iff_not] at h'
    have ih := risingS_pairwise x r h'.2
    refine List.pairwise_cons.mpr ⟨fun z hz => ?_, ih⟩
    rcases List.mem_cons.mp hz with rfl | hz
    · exact h'.1
    · exact nlt_trans h'.1 ((List.pairwise_cons.mp ih).1 z hz)
theorem sortedS_pairwise : ∀ (l : List Str), sortedS l = true → l.Pairwise (fun a b => ¬ b.cps.toList < a.cps.toList)
  | [], _ => .nil
  | x :: r, h => risingS_pairwise x r h

noncomputable def minOf (m : List Nat) : List (List Nat) → List Nat
  | [] => m
  | x :: r => minOf (if x < m then x else m) r
noncomputable def minL : List (List Nat) → List Nat
  | [] => []
  | x :: r => minOf x r

theorem minL_snoc (x : List Nat) : ∀ (ls : List (List Nat)), ls ≠ [] → minL (ls ++ [x]) = if x < minL ls then x else minL ls
  | [], h => absurd rfl h
  | y :: r, _ => by
    show minOf y (r ++ [x]) = if x < minOf y r then x else minOf y r
    induction r generalizing y with
    | nil => rfl
    | cons z r ih => exact ih _ (by simp)

theorem argBest_min (ls : List (List Nat)) (bt : Nat → Nat → Bool) (hbt : ∀ i j, i < ls.length → j < ls.length → bt i j = decide (ls.getD i [] < ls.getD j [])) : ∀ k, k < ls.length → argBest bt k ≤ k ∧ ls.getD (argBest bt k) [] = minL (ls.take (k + 1))
  | 0, h => by
    cases ls with
    | nil => simp at h
    | cons x r => exact ⟨Nat.le_refl 0, rfl⟩
  | k + 1, h => by
    obtain ⟨h1, h2⟩ := argBest_min ls bt hbt k (by omega)
    have e : ls.take (k + 1 + 1) = ls.take (k + 1) ++ [ls.getD (k + 1) []] := by
      rw [List.take_add_one, List.getElem?_eq_getElem h, List.getD_eq_getElem?_getD, List.getElem?_eq_getElem h]; rfl
    have hne : ls.take (k + 1) ≠ [] := fun q => by
      have := congrArg List.length q
      rw [List.length_take, List.length_nil] at this
      omega
    rw [e, minL_snoc _ _ hne, ← h2]
    show (if bt (k + 1) (argBest bt k) = true then k + 1 else argBest bt k) ≤ k + 1 ∧ ls.getD (if bt (k + 1) (argBest bt k) = true then k + 1 else argBest bt k) [] = _
    rw [hbt (k + 1) (argBest bt k) h (by omega)]
    by_cases q : ls.getD (k + 1) [] < ls.getD (argBest bt k) []
    · simp only [q, decide_true, if_true]; exact ⟨Nat.le_refl _, trivial⟩
    · simp only [q, decide_false, if_false]; exact ⟨by simp; omega, by simp⟩

section
variable {G : Gd} {n : Nat}

theorem sorted_ls (ls : List (List Nat)) (h : ls.length < 64) : Act G n (fun vs => call (.builtin "sorted") vs) [.list (txts ls)] (.list (txts (sortL ls))) := fun A k s vs Q E rm ok r hq => by
  cases r with
  | cons h1 r1 =>
  cases r1
  obtain ⟨a, vs, m, rfl, hl, hr⟩ := isL_of ok h1
  have hlen := hr.length
  refine sorted_strs hl.isList (rds_strs hr) (by rw [hlen, List.length_map]; exact h) fun out ss' hss hp hsrt => ?_
  obtain ⟨e, he⟩ := sortedAll_at s.heap vs out
  have hss' : ss'.map (fun x => x.cps.toList) = sortL ls := by
    refine sortL_unique ?_ ?_
    · have := hp.map (fun x => x.cps.toList)
      rwa [List.map_map, show ((fun x : Str => x.cps.toList) ∘ S) = id from funext fun l => S_cps l, List.map_id] at this
    · have := sortedS_pairwise _ hsrt
      rw [List.pairwise_map]; exact this
  have h0 : s.heap.get? (s.heap.objs.size + 1) = none := get?_ge (Nat.le_succ _)
  have g := Gr.keepsPut (t := s.toks) ok (h' := sortedAll s.heap vs out) (fun b o e => sortedAll_old e) h0 he V
  refine hq _ _ _ g (.list (vs := out.toList) (n := e) (by rw [Part.put_self]) ?_)
  have := strs_rds (k := k.put (s.heap.objs.size + 1) (seqObj "list" out e)) hss
  rw [hss'] at this
  exact this

theorem min_ls (ls : List (List Nat)) (h : ls ≠ []) : Act G n (fun vs => call (.builtin "min") vs) [.list (txts ls)] (.str (S (minL ls))) := fun A k s vs Q E rm ok r hq => by
  cases r with
  | cons h1 r1 =>
  cases r1
  obtain ⟨a, vs, m, rfl, hl, hr⟩ := isL_of ok h1
  have hlen : vs.length = ls.length := by rw [hr.length, List.length_map]
  refine wpAny_with_toks (n := 1) ok.tk (call_min_walk ?_)
  refine wpAny_pyIter_list hl.isList ?_
  have g₂ := Gr.keeps (t := s.toks) ok (h' := s.heap.push { cls := .type "list_iterator", data := .fields #[.ref a, .int 0 0] }) (fun b o e => Heap.get?_push_of_some _ e) V
  have hlt := Heap.lt_size hl
  have hss := rds_strs hr
  have hpos : 0 < ls.length := List.length_pos_iff.mpr h
  refine ⟨_, _, _, _, _, _, fun i j => decide (ls.getD i [] < ls.getD j []), rfl, Walks.list (prog := G.prog) (w := G.w) (A := A.in1) rm.hh s.heap.objs.size a (Nat.ne_of_lt hlt) vs.toArray, ⟨⟨_, Heap.get?_push_size _ rfl, rfl, rfl⟩, hl.isList.push _⟩, ?_, by rw [List.size_toArray, hlen]; exact hpos, ?_, ?_⟩
  · intro b hb
    rw [Heap.size_push]
    rcases List.mem_cons.mp hb with rfl | hb
    · exact Nat.lt_succ_self _
    · rcases List.mem_cons.mp hb with rfl | hb
      · exact Nat.lt_succ_of_lt hlt
      · cases hb
  · intro i j vi vj s Q E hi hj hQ
    obtain ⟨x, t, rfl, hx⟩ := hss.item i vi (by simpa using hi)
    obtain ⟨y, u, rfl, hy⟩ := hss.item j vj (by simpa using hj)
    refine P.lt_str ?_
    have ex : x.cps.toList = ls.getD i [] := by
      rw [List.getElem?_map] at hx
      obtain ⟨l, hl, rfl⟩ := Option.map_eq_some_iff.mp hx
      rw [List.getD_eq_getElem?_getD, hl]; exact S_cps l
    have ey : y.cps.toList = ls.getD j [] := by
      rw [List.getElem?_map] at hy
      obtain ⟨l, hl, rfl⟩ := Option.map_eq_some_iff.mp hy
      rw [List.getD_eq_getElem?_getD, hl]; exact S_cps l
    rw [ex, ey]; exact hQ
  · intro v h' tk hP hk ht
    have hb := argBest_min ls (fun i j => decide (ls.getD i [] < ls.getD j [])) (fun _ _ _ _ => rfl) (ls.length - 1) (by omega)
    rw [List.size_toArray, hlen] at hP
    generalize argBest (fun i j => decide (ls.getD i [] < ls.getD j [])) (ls.length - 1) = q at hb hP
    obtain ⟨x, t, rfl, hx⟩ := hss.item _ v (by simpa using hP)
    have hd : S (minL ls) = x := by
      rw [List.getElem?_map] at hx
      obtain ⟨l, hl, rfl⟩ := Option.map_eq_some_iff.mp hx
      have e1 := hb.2
      rw [List.getD_eq_getElem?_getD, hl, List.take_of_length_le (by omega)] at e1
      rw [← e1]; rfl
    have g₃ := Gr.keeps (t := tk) ok (h' := h') (fun b o e => hk b o (fun hm => by
      simp only [List.mem_cons, List.not_mem_nil, or_false] at hm
      exact Nat.ne_of_lt (Heap.lt_size e) hm) (Heap.get?_push_of_some _ e)) V ht
    exact hq k _ _ g₃ (by rw [hd]; exact .str x t)
end
end Mine

namespace Mine
open PySem PySem.Calls PySem.Spec PyProof.Rows
set_option maxRecDepth 100000
set_option linter.unusedVariables false
set_option linter.unusedSimpArgs false

noncomputable def stmtAt (i : Nat) : Stmt := PySem.Challenge.pw_kl0085_01.main.body.getD i (.Pass default)
noncomputable def defOf : Stmt → Value → Value → Value → FuncData
  | .FunctionDef name args body _ _ _ scope _ _ _, pm, cd, doc => docDef name args body scope pm cd doc
  | _, pm, cd, doc => docDef default default [] default pm cd doc
noncomputable def bodyOf : Stmt → List Stmt
  | .FunctionDef _ _ body _ _ _ _ _ _ _ => body
  | _ => []
noncomputable def nameOf : Stmt → Str
  | .FunctionDef name _ _ _ _ _ _ _ _ _ => name
  | _ => default
noncomputable def FnAt (G : Gd) (a : Addr) (st : Stmt) : Prop :=
  ∃ ob pm cd doc, G.kB a = some ob ∧ ob.data = .func (defOf st pm cd doc) ∧ ∀ h, G.kB.inH h → h.CodeRec (defOf st pm cd doc).code (defOf st pm cd doc).qualname

section
variable {G : Gd} {Γ : Cx} {σ : Sto}
theorem ev_txt {x : Str} {l : List Nat} {n : Nat} {pos : Pos} (h : x = S l) : Ev G Γ σ (.Constant (.str x) n pos) (.str (S l)) := by subst h; exact ev_str

theorem each_map {t elt : Expr} {α : Type} (f g : α → D) (l : List α) (h : ∀ x ∈ l, ∃ σ', Asg G Γ σ t (f x) σ' ∧ (∀ y V, σ.lookup y = some V → σ'.lookup y = some V) ∧ Ev G Γ σ' elt (g x)) : Each G Γ σ t elt (l.map f) (l.map g) := by
  induction l with
  | nil => exact .nil
  | cons x l ih =>
    obtain ⟨σ', h1, h2, h3⟩ := h x (.head _)
    exact .cons h1 h2 h3 (ih fun y hy => h y (.tail _ hy))
theorem upd_keeps {x : Str} {W : Vl} (hx : σ.lookup x = none) : ∀ y V, σ.lookup y = some V → (upd σ x W).lookup y = some V := fun y V e => by
  rw [lookup_upd]
  split
  · rename_i h; subst h; rw [hx] at e; cases e
  · exact e
end

-- what _law_named makes
noncomputable def rots (r : List Nat) : List (List Nat) := (List.range r.length).map fun k => r.drop k ++ r.take k
noncomputable def named (way : List Nat) (loops : List (List Nat)) : List Nat := way ++ [32] ++ joinL [32] (sortL (loops.map fun r => minL (rots r)))

theorem cut_from (l : List α) (k : Nat) : cut l (some (k : Int)) none = l.drop k := by
  unfold cut
  simp only [Option.elim]
  have : clipAt l.length (k : Int) = min k l.length := by
    have := clipAt_cast l.length (k : Int)
    omega
  rw [this, List.take_of_length_le (by rw [List.length_drop]; omega)]
  rcases Nat.le_total k l.length with h | h
  · rw [Nat.min_eq_left h]
  · rw [Nat.min_eq_right h, List.drop_of_length_le (Nat.le_refl _), List.drop_of_length_le h]
theorem cut_to (l : List α) (k : Nat) : cut l none (some (k : Int)) = l.take k := by
  unfold cut
  simp only [Option.elim]
  have : clipAt l.length (k : Int) = min k l.length := by
    have := clipAt_cast l.length (k : Int)
    omega
  rw [this, List.drop_zero, Nat.sub_zero]
  rcases Nat.le_total k l.length with h | h
  · rw [Nat.min_eq_left h]
  · rw [Nat.min_eq_right h, List.take_of_length_le (Nat.le_refl _), List.take_of_length_le h]
end Mine

namespace Mine
open PySem PySem.Calls PySem.Spec PyProof.Rows
set_option maxRecDepth 100000
set_option linter.unusedVariables false
set_option linter.unusedSimpArgs false

theorem look1 {y x : Str} {W V : Vl} (h : [(y, W)].lookup x = some V) : x = y ∧ V = W := by
  rw [List.lookup_cons] at h
  cases e : x == y with
  | true => rw [e] at h; simp at h; exact ⟨eq_of_beq e, h.symm⟩
  | false => rw [e] at h; simp at h
theorem rots_ne {r : List Nat} (h : r ≠ []) : rots r ≠ [] := fun q => by
  have := congrArg List.length q
  simp [rots] at this
  exact h this

theorem minL_mem : ∀ {ls : List (List Nat)}, ls ≠ [] → minL ls ∈ ls
  | [], h => absurd rfl h
  | x :: r, _ => by
    have : ∀ (r : List (List Nat)) (m : List Nat), minOf m r = m ∨ minOf m r ∈ r := fun r => by
      induction r with
      | nil => intro m; exact .inl rfl
      | cons y r ih =>
        intro m
        show minOf (if y < m then y else m) r = m ∨ minOf (if y < m then y else m) r ∈ y :: r
        split
        · rcases ih y with h | h
          · rw [h]; exact .inr (.head _)
          · exact .inr (.tail _ h)
        · rcases ih m with h | h
          · exact .inl h
          · exact .inr (.tail _ h)
    rcases this r x with h | h
    · show minOf x r ∈ _; rw [h]; exact .head _
    · exact .tail _ h
theorem sizes_le (sep : List Nat) (m : Nat) : ∀ (ls : List (List Nat)) (a : Nat), (∀ l ∈ ls, l.length ≤ m) → ls.foldl (fun a l => a + l.length + sep.length) a ≤ a + ls.length * (m + sep.length)
  | [], a, _ => by simp
  | x :: r, a, h => by
    have h1 := h x (.head _)
    have h2 := sizes_le sep m r (a + x.length + sep.length) fun l hl => h l (.tail _ hl)
    rw [List.foldl_cons, List.length_cons, Nat.add_mul]
    omega
theorem joinL_le (sep : List Nat) (m : Nat) : ∀ (ls : List (List Nat)), (∀ l ∈ ls, l.length ≤ m) → (joinL sep ls).length ≤ ls.length * (m + sep.length)
  | [], _ => by simp [joinL]
  | x :: r, h => by
    have : ∀ (r : List (List Nat)) (x : List Nat), (∀ l ∈ r, l.length ≤ m) → (r.foldl (fun acc p => acc ++ sep ++ p) x).length ≤ x.length + r.length * (m + sep.length) := fun r => by
      induction r with
      | nil => intro x _; simp
      | cons y r ih =>
        intro x h
        have h1 := h y (.head _)
        have h2 := ih (x ++ sep ++ y) fun l hl => h l (.tail _ hl)
        rw [List.length_append, List.length_append] at h2
        rw [List.foldl_cons, List.length_cons, Nat.add_mul]
        omega
    have h1 := h x (.head _)
    have h2 := this r x fun l hl => h l (.tail _ hl)
    rw [List.length_cons, Nat.add_mul]
    show (r.foldl (fun acc p => acc ++ sep ++ p) x).length ≤ _
    omega

structure Nm (G : Gd) : Prop where
  min0 : G.mg "min" = none
  min1 : G.mb "min" = some (.builtin "min")
  range0 : G.mg "range" = none
  range1 : G.mb "range" = some (.type "range")
  len0 : G.mg "len" = none
  len1 : G.mb "len" = some (.builtin "len")
  sorted0 : G.mg "sorted" = none
  sorted1 : G.mb "sorted" = some (.builtin "sorted")

theorem lk_str : typeLookup (.type "str") "__getitem__" = pure (some (.builtin "str.__getitem__")) := F.slot_str_getitem.lookup
theorem lk_list : typeLookup (.type "list") "__getitem__" = pure (some (.builtin "list.__getitem__")) := F.slot_list_getitem.lookup
theorem lk_tuple : typeLookup (.type "tuple") "__getitem__" = pure (some (.builtin "tuple.__getitem__")) := F.slot_tuple_getitem.lookup

section
variable {G : Gd}

theorem named_act {n : Nat} (B : Base G) (N : Nm G) (hf : FnAt G 142 (stmtAt 13)) (way : List Nat) (loops : List (List Nat)) (h1 : way.length ≤ 1000) (h2 : loops.length < 64) (h3 : ∀ r ∈ loops, r ≠ [] ∧ r.length ≤ 1000) :
    Act G (n + 1) (fun vs => call (.ref 142) vs) [.str (S way), .list (txts loops)] (.str (S (named way loops))) := by
  obtain ⟨ob, pm, cd, doc, hk, hd, hc⟩ := hf
  have hs := sizeLine_eq
  refine fn_intro (names := ["way", "loops"]) (body := bodyOf (stmtAt 13)) B hk hd hc rfl rfl rfl rfl ?_ rfl (by decide) ?_ ?_ rfl rfl rfl ?_
  · intro vs hv
    match vs, hv with
    | [a, b], _ => rfl
  · intro x hx
    simp only [List.mem_cons, List.not_mem_nil, or_false] at hx
    rcases hx with rfl | rfl
    · exact .inl rfl
    · exact .inl rfl
  · intro L p hp
    cases hp
  · intro A L
    refine ex_cons (σ' := upd (List.zip ["way", "loops"] (List.map Vl.dat [.str (S way), .list (txts loops)])) "rings" (.dat (.list (txts (loops.map fun r => minL (rots r)))))) ?_ ?_
    · rw [show txts (loops.map fun r => minL (rots r)) = loops.map (fun r => D.str (S (minL (rots r)))) from List.map_map ..]
      refine sx_comp (cl := []) (σc := []) (ds := txts loops) (itr_list (ev_name rfl)) ⟨fun x => rfl, rfl, rfl, by decide, ?_, ?_, ?_⟩ ?_ (by rw [List.length_map]; omega) (.loc rfl) rfl
      · intro x c h; cases h
      · intro C p hp; obtain rfl := List.mem_singleton.mp hp; rfl
      · intro C x V e; cases e
      · intro C
        refine each_map _ _ _ fun r hr => ⟨_, asg_name (.cell (C + 1) rfl rfl (by simp [cellsFrom]) (Nat.succ_ne_self C)), upd_keeps rfl, ?_⟩
        obtain ⟨hr0, hr1⟩ := h3 r hr
        refine call_b (fv_builtin B rfl N.min0 N.min1) (.cons (fun _ _ => rfl) ?_ .nil) (min_ls (rots r) ?_)
        · refine ev_comp (cl := [("ring", C + 1)]) (σc := [("ring", .dat (.str (S r)))]) (ds := (List.range r.length).map fun (i : Nat) => .int i) ?_ ⟨fun x => rfl, rfl, rfl, by decide, ?_, ?_, ?_⟩ ?_ (by simp; omega)
          · refine itr_range (fv_builtin B rfl N.range0 N.range1) (call_b (fv_builtin B rfl N.len0 N.len1) (.cons (fun _ _ => rfl) (ev_name rfl) .nil) (len_s r (by omega))) (fun _ _ => rfl) (by omega)
          · intro x c h; obtain ⟨rfl, rfl⟩ := Prod.mk.inj (List.mem_singleton.mp h); rfl
          · intro C p hp; cases hp
          · intro C' x V e
            obtain ⟨rfl, rfl⟩ := look1 e
            exact ⟨_, C + 1, rfl, rfl, .inl rfl, .inl rfl, rfl, rfl⟩
          · intro C'
            rw [show txts (rots r) = (List.range r.length).map (fun k => D.str (S (r.drop k ++ r.take k))) from List.map_map ..]
            refine each_map _ _ _ fun k hk => ⟨_, asg_name (.loc rfl), upd_keeps rfl, ?_⟩
            have hk' := List.mem_range.mp hk
            refine ev_binop (a := .str (S (r.drop k))) (b := .str (S (r.take k))) ?_ ?_ (add_ss _ _ (by simp; omega))
            · rw [← cut_from]
              exact ev_slice (ev_name rfl) (.some (ev_name rfl)) .none .none (type_s _) lk_str (sl_s r _ _ (by omega))
            · rw [← cut_to]
              exact ev_slice (ev_name rfl) .none (.some (ev_name rfl)) .none (type_s _) lk_str (sl_s r _ _ (by omega))
        · exact rots_ne hr0
    · refine ex_ret (sx_ret ?_)
      have hj : sizes [32] (sortL (loops.map fun r => minL (rots r))) ≤ sizeLine ∧ (joinL [32] (sortL (loops.map fun r => minL (rots r)))).length ≤ 100000 := by
        have hm : ∀ l ∈ sortL (loops.map fun r => minL (rots r)), l.length ≤ 1000 := fun l hl => by
          obtain ⟨r, hr, rfl⟩ := List.mem_map.mp ((sortL_perm _).mem_iff.mp hl)
          obtain ⟨hr0, hr1⟩ := h3 r hr
          obtain ⟨k, hk, e⟩ := List.mem_map.mp (minL_mem (rots_ne hr0))
          have e : _ = minL (rots r) := e
          rw [← e, List.length_append, List.length_drop, List.length_take]
          omega
        have hl : (sortL (loops.map fun r => minL (rots r))).length = loops.length := by rw [(sortL_perm _).length_eq, List.length_map]
        have e1 := sizes_le [32] 1000 _ 0 hm
        have e2 := joinL_le [32] 1000 _ hm
        rw [hl] at e1 e2
        have e3 : [32].length = 1 := rfl
        rw [e3] at e1 e2
        constructor
        · unfold sizes; rw [e3]; omega
        · omega
      refine ev_binop (ev_binop (ev_name rfl) (ev_txt (l := [32]) rfl) (add_ss _ _ ?_)) ?_ (add_ss _ _ ?_)
      · simp; omega
      · refine ev_meth (ev_txt (l := [32]) rfl) (type_s _) F.plainAttrs_str F.slot_str_join F.type_str_join (.cons (fun _ _ => rfl) ?_ .nil) (join_ls _ _ hj.1) rfl rfl rfl
        exact call_b (fv_builtin B rfl N.sorted0 N.sorted1) (.cons (fun _ _ => rfl) (ev_name rfl) .nil) (sorted_ls _ (by rw [List.length_map]; omega))
      · simp; omega
end
end Mine

namespace Mine
open PySem PySem.Calls PySem.Spec PyProof.Rows
set_option maxRecDepth 100000
set_option linter.unusedVariables false
set_option linter.unusedSimpArgs false

section
variable {G : Gd} {Γ : Cx} {σ : Sto}
theorem fold_run {α β : Type} {x : Str} {body : List Stmt} (f : β → D) (τ : α → Sto) (step : α → β → α) : ∀ (l : List β) (a : α),
    (∀ pre b post, l = pre ++ b :: post → Ex G Γ (upd (τ (pre.foldl step a)) x (.dat (f b))) body (.next (τ (step (pre.foldl step a) b)))) → Fold G Γ x body (τ a) (l.map f) (.next (τ (l.foldl step a)))
  | [], a, _ => .nil
  | b :: l, a, h => by
    refine .step (h [] b l rfl) (fold_run f τ step l (step a b) fun pre b' post e => ?_)
    exact h (b :: pre) b' post (by rw [e]; rfl)
end

theorem isIn_one (c : Nat) (l : List Nat) : isIn [c] l = decide (c ∈ l) := by
  unfold isIn
  rw [show S [c] = ⟨#[c]⟩ from rfl, StrLaws.found_one, S_cps]

theorem subAt_S (x y : List Nat) (i : Nat) : Builtin.Str.subAt (S x) (S y) i = ((x.drop i).take y.length == y) := by
  unfold Builtin.Str.subAt
  have e : ((S x).cps.extract i (i + (S y).length)).toList = (x.drop i).take y.length := by
    rw [Array.toList_extract, List.extract_eq_take_drop, S_length, show i + y.length - i = y.length by omega]
  rw [Bool.eq_iff_iff, beq_iff_eq, beq_iff_eq]
  constructor
  · intro h; rw [← e, h]
  · intro h; apply Array.ext'; rw [e, h]
theorem subAt_one {l : List Nat} {c i : Nat} : StrLaws.At (S l) (S [c]) (S l).length i ↔ l[i]? = some c := by
  unfold StrLaws.At
  rw [S_length, S_length, subAt_S, beq_iff_eq]
  show i + 1 ≤ l.length ∧ (l.drop i).take 1 = [c] ↔ _
  constructor
  · rintro ⟨h1, h2⟩
    have h3 : i < l.length := h1
    rw [List.drop_eq_getElem_cons h3, List.take_succ_cons, List.take_zero] at h2
    rw [List.getElem?_eq_getElem h3]
    exact congrArg some (List.cons.inj h2).1
  · intro h
    have h3 : i < l.length := by
      rcases Nat.lt_or_ge i l.length with q | q
      · exact q
      · rw [List.getElem?_eq_none q] at h; cases h
    rw [List.getElem?_eq_getElem h3] at h
    refine ⟨h3, ?_⟩
    rw [List.drop_eq_getElem_cons h3, List.take_succ_cons, List.take_zero, Option.some.inj h]

theorem find_one (c : Nat) (l : List Nat) (h : c ∈ l) : Txt.find (S l) (S [c]) = (l.idxOf c : Nat) := by
  unfold Txt.find
  rcases StrLaws.occ_head (S l) (S [c]) 1 (Nat.le_refl 1) with ⟨h1, h2⟩ | ⟨i, r, h1, h2, h3⟩
  · obtain ⟨i, hi, e⟩ := List.getElem_of_mem h
    exact absurd (subAt_one.mpr (by rw [List.getElem?_eq_getElem hi, e])) (h2 i)
  · rw [h1]
    have e : i = l.idxOf c := by
      have h4 := subAt_one.mp h2
      have h5 : l.idxOf c < l.length := List.idxOf_lt_length_of_mem h
      have h6 : l[l.idxOf c]? = some c := by rw [List.getElem?_eq_getElem h5, List.getElem_idxOf]
      rcases Nat.lt_trichotomy i (l.idxOf c) with q | q | q
      · have hi : i < l.length := by omega
        rw [List.getElem?_eq_getElem hi] at h4
        have := List.not_of_lt_findIdx (p := (· == c)) q
        rw [Option.some.inj h4] at this
        simp at this
      · exact q
      · exact absurd (subAt_one.mpr h6) (h3 _ q)
    rw [← e]

noncomputable def plainStep (side : Int) (a : List Nat × List (List Nat)) (c : Nat) : List Nat × List (List Nat) :=
  if c ∈ a.1 then (a.1.take (a.1.idxOf c) ++ [c], a.2 ++ [sided side (a.1.drop (a.1.idxOf c))]) else (a.1 ++ [c], a.2)
noncomputable def plainRun (side : Int) (text : List Nat) : List Nat × List (List Nat) := text.foldl (plainStep side) ([], [])
noncomputable def plain (walk : List Nat) (side : Int) : List Nat := named (sided side (plainRun side (sided side walk)).1) (plainRun side (sided side walk)).2

theorem sided_length (side : Int) (l : List Nat) : (sided side l).length = l.length := by unfold sided; split <;> simp

theorem plain_bounds (side : Int) (l : List Nat) : (plainRun side l).1.length ≤ l.length ∧ (plainRun side l).2.length ≤ l.length ∧ ∀ r ∈ (plainRun side l).2, r ≠ [] ∧ r.length ≤ l.length := by
  have : ∀ (l : List Nat) (a : List Nat × List (List Nat)) (m : Nat), a.1.length ≤ m → a.2.length ≤ m → (∀ r ∈ a.2, r ≠ [] ∧ r.length ≤ m) →
      (l.foldl (plainStep side) a).1.length ≤ m + l.length ∧ (l.foldl (plainStep side) a).2.length ≤ m + l.length ∧ ∀ r ∈ (l.foldl (plainStep side) a).2, r ≠ [] ∧ r.length ≤ m + l.length := fun l => by
    induction l with
    | nil => intro a m h1 h2 h3; exact ⟨h1, h2, h3⟩
    | cons c l ih =>
      intro a m h1 h2 h3
      rw [List.foldl_cons, List.length_cons, show m + (l.length + 1) = (m + 1) + l.length by omega]
      refine ih _ (m + 1) ?_ ?_ ?_
      · unfold plainStep; split <;> simp <;> omega
      · unfold plainStep; split <;> simp <;> omega
      · unfold plainStep
        split
        · rename_i hc
          intro r hr
          rcases List.mem_append.mp hr with hr | hr
          · obtain ⟨x, y⟩ := h3 r hr; exact ⟨x, by omega⟩
          · obtain rfl := List.mem_singleton.mp hr
            have hi := List.idxOf_lt_length_of_mem hc
            have hl : (sided side (List.drop (List.idxOf c a.1) a.1)).length = a.1.length - List.idxOf c a.1 := by rw [sided_length, List.length_drop]
            refine ⟨fun q => ?_, by omega⟩
            rw [q, List.length_nil] at hl; omega
        · intro r hr; obtain ⟨x, y⟩ := h3 r hr; exact ⟨x, by omega⟩
  have := this l ([], []) 0 (Nat.le_refl _) (Nat.le_refl _) (fun r hr => by cases hr)
  simpa [plainRun] using this
end Mine

namespace Mine
open PySem PySem.Calls PySem.Spec PyProof.Rows
set_option maxRecDepth 100000
set_option linter.unusedVariables false
set_option linter.unusedSimpArgs false

section
variable {G : Gd}

noncomputable def plainSto (walk : List Nat) (side : Int) (a : List Nat × List (List Nat)) : Sto :=
  [("walk", .dat (.str (S walk))), ("side", .dat (.int side)), ("way", .dat (.str (S a.1))), ("loops", .lst (txts a.2))]

theorem sl_from {n : Nat} (l : List Nat) (k : Nat) (hw : l.length ≤ sizeLine) : ActSl G n (some (k : Int)) none none (.str (S l)) (.str (S (l.drop k))) := by rw [← cut_from]; exact sl_s l _ _ hw
theorem sl_to {n : Nat} (l : List Nat) (k : Nat) (hw : l.length ≤ sizeLine) : ActSl G n none (some (k : Int)) none (.str (S l)) (.str (S (l.take k))) := by rw [← cut_to]; exact sl_s l _ _ hw
theorem find_in {n : Nat} (c : Nat) (w : List Nat) (h : c ∈ w) : Act G n (fun vs => call (.builtin "str.find") vs) [.str (S w), .str (S [c])] (.int (w.idxOf c : Nat)) := by rw [← find_one c w h]; exact find_ss w [c]
theorem in_true {n : Nat} (c : Nat) (w : List Nat) (h : c ∈ w) : Act G n (fun vs => compareOp .In (vs.getD 0 .none) (vs.getD 1 .none)) [.str (S [c]), .str (S w)] (.bool true) := by
  have := in_ss (G := G) (n := n) [c] w; rwa [isIn_one, decide_eq_true h] at this
theorem in_false {n : Nat} (c : Nat) (w : List Nat) (h : c ∉ w) : Act G n (fun vs => compareOp .In (vs.getD 0 .none) (vs.getD 1 .none)) [.str (S [c]), .str (S w)] (.bool false) := by
  have := in_ss (G := G) (n := n) [c] w; rwa [isIn_one, decide_eq_false h] at this
theorem txts_snoc (ls : List (List Nat)) (l : List Nat) : txts ls ++ [.str (S l)] = txts (ls ++ [l]) := by simp

theorem plain_act {n : Nat} (B : Base G) (N : Nm G) (hn : FnAt G 142 (stmtAt 13)) (hng : G.mg "_law_named" = some (.ref 142)) (hf : FnAt G 154 (stmtAt 15)) (walk : List Nat) (side : Int) (hside : side = 1 ∨ side = -1) (h1 : walk.length ≤ 60) :
    Act G (n + 2) (fun vs => call (.ref 154) vs) [.str (S walk), .int side] (.str (S (plain walk side))) := by
  obtain ⟨ob, pm, cd, doc, hk, hd, hc⟩ := hf
  have hs := sizeLine_eq
  refine fn_intro (names := ["walk", "side"]) (body := bodyOf (stmtAt 15)) B hk hd hc rfl rfl rfl rfl ?_ rfl (by decide) ?_ ?_ rfl rfl rfl ?_
  · intro vs hv
    match vs, hv with
    | [a, b], _ => rfl
  · intro x hx
    simp only [List.mem_cons, List.not_mem_nil, or_false] at hx
    rcases hx with rfl | rfl
    · exact .inl rfl
    · exact .inl rfl
  · intro L p hp
    cases hp
  · intro A L
    refine ex_cons (sx_swap (ws := [("way", .dat (.str (S []))), ("loops", .lst [])]) (.cons (fun _ _ => rfl) (evv_dat (ev_txt rfl)) (by decide) (.cons (fun _ _ => rfl) (evv_nil fun W e => by cases e) (by decide) .nil)) (.cons (.loc rfl) (.cons (.loc rfl) .nil)) rfl (by show (2 : Nat) ≤ _; omega) rfl rfl) ?_
    have hb := plain_bounds side (sided side walk)
    rw [sided_length] at hb
    refine ex_cons (σ' := plainSto walk side (plainRun side (sided side walk))) ?_ ?_
    · refine (Sx.pre ?_ (σ := plainSto walk side ([], [])) ?_)
      · refine sx_for (ds := (sided side walk).map fun c => .str (S [c])) (itr_str (ev_slice (ev_name rfl) .none .none (.some (ev_name rfl)) (type_s _) lk_str (slst_s walk side hside (by omega)))) (.loc rfl) (fold_run (fun c => .str (S [c])) (plainSto walk side) (plainStep side) _ _ ?_) (fun x => rfl)
        intro pre c post e
        have hb' := plain_bounds side pre
        have hlen : pre.length < walk.length := by
          have := congrArg List.length e
          rw [sided_length, List.length_append, List.length_cons] at this
          omega
        show Ex _ _ (upd (plainSto walk side (plainRun side pre)) _ _) _ (.next (plainSto walk side (plainStep side (plainRun side pre) c)))
        generalize plainRun side pre = a at hb'
        obtain ⟨w, ls⟩ := a
        have hw : w.length ≤ 60 := Nat.le_trans hb'.1 (by omega)
        have hl : ls.length ≤ 60 := Nat.le_trans hb'.2.1 (by omega)
        by_cases hm : c ∈ w
        · have e1 : plainStep side (w, ls) c = (w.take (w.idxOf c) ++ [c], ls ++ [sided side (w.drop (w.idxOf c))]) := if_pos hm
          rw [e1]
          refine ex_cons (sx_if (b := true) (tv_cmp (ev_name rfl) (ev_name rfl) (in_true c w hm)) (fun _ => ex_cons (sx_append (ds := txts ls) (d := .str (S (sided side (w.drop (w.idxOf c))))) rfl ?_ (by rw [List.length_map]; omega) (fun _ _ => rfl) rfl rfl rfl rfl rfl) (ex_cons (sx_assign (d := .str (S (w.take (w.idxOf c)))) ?_ (.loc rfl) rfl) ex_nil)) (fun h => by cases h)) ?_
          · refine ev_slice (ev_slice (ev_name rfl) (.some (ev_meth (ev_name rfl) (type_s _) F.plainAttrs_str F.slot_str_find F.type_str_find (.cons (fun _ _ => rfl) (ev_name rfl) .nil) (find_in c w hm) rfl rfl rfl)) .none .none (type_s _) lk_str (sl_from _ _ (by omega))) .none .none (.some (ev_name rfl)) (type_s _) lk_str (slst_s _ side hside ?_)
            rw [List.length_drop]; omega
          · exact ev_slice (ev_name rfl) .none (.some (ev_meth (ev_name rfl) (type_s _) F.plainAttrs_str F.slot_str_find F.type_str_find (.cons (fun _ _ => rfl) (ev_name rfl) .nil) (find_in c w hm) rfl rfl rfl)) .none (type_s _) lk_str (sl_to _ _ (by omega))
          · refine Ex.post (ex_cons (sx_assign (ev_binop (ev_name rfl) (ev_name rfl) (add_ss _ _ ?_)) (.loc rfl) rfl) ex_nil) (.cons rfl (.cons rfl (.cons rfl (.cons ?_ .nil))))
            · rw [List.length_take]; show _ + 1 ≤ _; omega
            · rw [← txts_snoc]; rfl
        · have e1 : plainStep side (w, ls) c = (w ++ [c], ls) := if_neg hm
          rw [e1]
          refine ex_cons (sx_if (b := false) (tv_cmp (ev_name rfl) (ev_name rfl) (in_false c w hm)) (fun h => by cases h) (fun _ => ex_nil)) ?_
          refine Ex.post (ex_cons (sx_assign (ev_binop (ev_name rfl) (ev_name rfl) (add_ss _ _ ?_)) (.loc rfl) rfl) ex_nil) (.cons rfl (.cons rfl (.cons rfl (.cons rfl .nil))))
          show _ + 1 ≤ _; omega
      · exact .cons rfl (.cons rfl (.cons rfl (.cons rfl .nil)))
    · show Ex _ _ _ _ (.ret (.str (S (named (sided side (plainRun side (sided side walk)).1) (plainRun side (sided side walk)).2))))
      generalize plainRun side (sided side walk) = a at hb
      obtain ⟨w, ls⟩ := a
      have hw : w.length ≤ 60 := Nat.le_trans hb.1 h1
      have hl : ls.length ≤ 60 := Nat.le_trans hb.2.1 h1
      obtain ⟨ob', pm', cd', doc', hk', hd', hc'⟩ := id hn
      refine ex_freeze (x := "loops") (ds := txts ls) rfl (ex_ret (sx_ret ?_))
      refine call_f (fv_global B rfl hng) hk' hd' (.cons (fun _ _ => rfl) (ev_slice (ev_name rfl) .none .none (.some (ev_name rfl)) (type_s _) lk_str (slst_s _ side hside (by omega))) (.cons (fun _ _ => rfl) (ev_name rfl) .nil)) ?_
      refine named_act B N hn _ _ (by rw [sided_length]; omega) (by omega) fun r hr => ?_
      obtain ⟨x, y⟩ := hb.2.2 r hr
      exact ⟨x, by omega⟩
end
end Mine

namespace Mine
open PySem PySem.Calls PySem.Spec PyProof.Rows
set_option maxRecDepth 100000
set_option linter.unusedVariables false
set_option linter.unusedSimpArgs false

section
variable {G : Gd} {n : Nat}
theorem eq_ls (xs ys : List (List Nat)) : Act G n (fun vs => compareOp .Eq (vs.getD 0 .none) (vs.getD 1 .none)) [.list (txts xs), .list (txts ys)] (.bool (decide (xs = ys))) := act2 fun A k s v u Q E rm ok h1 h2 hq => by
  obtain ⟨a, vs, m, rfl, hl, hr⟩ := isL_of ok h1
  obtain ⟨b, us, m', rfl, hb, hs⟩ := isL_of ok h2
  have e1 : vs.length = xs.length := by rw [hr.length, List.length_map]
  have e2 : us.length = ys.length := by rw [hs.length, List.length_map]
  by_cases hsz : xs.length = ys.length
  · have s1 := rds_strs hr
    have s2 := rds_strs hs
    refine P.eq_list (e := fun j => decide (xs.getD j [] = ys.getD j [])) hl hb (by rw [List.size_toArray, List.size_toArray, e1, e2, hsz]) (fun j h1 h2 => ?_) rm.units ?_
    · have g1 : vs[j]? = some (vs.toArray[j]) := by rw [List.getElem_toArray]; exact List.getElem?_eq_getElem _
      have g2 : us[j]? = some (us.toArray[j]) := by rw [List.getElem_toArray]; exact List.getElem?_eq_getElem _
      obtain ⟨x, t, ex, hx⟩ := s1.item j _ g1
      obtain ⟨y, t', ey, hy⟩ := s2.item j _ g2
      rw [ex, ey]
      have : (x.cps.toList == y.cps.toList) = decide (xs.getD j [] = ys.getD j []) := by
        rw [List.getElem?_map] at hx hy
        obtain ⟨l, hl, rfl⟩ := Option.map_eq_some_iff.mp hx
        obtain ⟨l', hl', rfl⟩ := Option.map_eq_some_iff.mp hy
        rw [List.getD_eq_getElem?_getD, List.getD_eq_getElem?_getD, hl, hl', S_cps, S_cps]
        rw [Bool.eq_iff_iff]; simp
      rw [← this]
      exact SeqRoads2.EqGives.str _ _ _ _
    · have : (List.range vs.toArray.size).all (fun j => decide (xs.getD j [] = ys.getD j [])) = decide (xs = ys) := by
        rw [List.size_toArray, e1, Bool.eq_iff_iff, List.all_eq_true, decide_eq_true_iff]
        constructor
        · intro h
          apply List.ext_getElem hsz
          intro i h1 h2
          have := h i (List.mem_range.mpr h1)
          rw [decide_eq_true_iff, List.getD_eq_getElem?_getD, List.getD_eq_getElem?_getD, List.getElem?_eq_getElem h1, List.getElem?_eq_getElem h2] at this
          exact this
        · rintro rfl i _; simp
      rw [this]; exact hq _ s.toks (.bool _)
  · refine P.eq_list_lengths hl hb ?_ rm.units ?_
    · rw [List.size_toArray, List.size_toArray, e1, e2]; simpa using hsz
    · have : decide (xs = ys) = false := decide_eq_false fun q => hsz (by rw [q])
      rw [← this]; exact hq _ s.toks (.bool _)

theorem notin_ls (x : List Nat) (ys : List (List Nat)) : Act G n (fun vs => compareOp .NotIn (vs.getD 0 .none) (vs.getD 1 .none)) [.str (S x), .list (txts ys)] (.bool (decide (x ∉ ys))) := act2 fun A k s v u Q E rm ok h1 h2 hq => by
  cases h1 with
  | str _ t =>
  obtain ⟨b, us, m', rfl, hb, hs⟩ := isL_of ok h2
  have s2 := rds_strs hs
  refine SeqInW.notIn_listW (fun v => decide (strOf v = S x)) (fun y hy => ?_) hb.isList ?_
  · obtain ⟨z, t', rfl⟩ := s2.all y (by simpa using hy)
    have : (z.cps.toList == (S x).cps.toList) = decide (strOf (.str z t') = S x) := by
      show _ = decide (z = S x)
      rw [toList_beq, Bool.eq_iff_iff]; simp
    rw [← this]
    exact SeqRoads2.EqGives.str _ _ _ _
  · have : (!us.toArray.any fun v => decide (strOf v = S x)) = decide (x ∉ ys) := by
      have h := s2.strs
      rw [Bool.eq_iff_iff]
      simp only [Bool.not_eq_true', List.any_toArray, List.any_eq_false, decide_eq_true_iff]
      constructor
      · intro hn hx
        have : S x ∈ us.map strOf := by rw [h]; exact List.mem_map_of_mem hx
        obtain ⟨v, hv, e⟩ := List.mem_map.mp this
        exact hn v hv e
      · intro hx v hv e
        have : S x ∈ ys.map S := by rw [← h, ← e]; exact List.mem_map_of_mem hv
        obtain ⟨y, hy, e'⟩ := List.mem_map.mp this
        have : y = x := by
          have := congrArg (fun z : Str => z.cps.toList) e'
          rwa [S_cps, S_cps] at this
        exact hx (this ▸ hy)
    rw [this]; exact hq _ s.toks (.bool _)
end

noncomputable def walksL : Nat → Nat → List (List Nat) → List (List Nat)
  | 0, c, _ => [[c]]
  | n + 1, c, steps => (List.range steps.length).foldl (fun acc k => if (steps.getD k []).getD 0 0 = c ∧ steps.getD k [] ∉ steps.take k then acc ++ (walksL n ((steps.getD k []).getD 1 0) (steps.take k ++ steps.drop (k + 1))).map (c :: ·) else acc) []
noncomputable def wstep (n c : Nat) (steps : List (List Nat)) (acc : List (List Nat)) (k : Nat) : List (List Nat) :=
  if (steps.getD k []).getD 0 0 = c ∧ steps.getD k [] ∉ steps.take k then acc ++ (walksL n ((steps.getD k []).getD 1 0) (steps.take k ++ steps.drop (k + 1))).map (c :: ·) else acc
theorem walksL_succ (n c : Nat) (steps : List (List Nat)) : walksL (n + 1) c steps = (List.range steps.length).foldl (wstep n c steps) [] := rfl

theorem wfold_bounds (n c : Nat) (steps : List (List Nat)) (ih : ∀ c' k, k < n + 1 → (walksL n c' (steps.take k ++ steps.drop (k + 1))).length ≤ 8 ^ n ∧ ∀ r ∈ walksL n c' (steps.take k ++ steps.drop (k + 1)), r.length ≤ n + 1) :
    ∀ (l : List Nat) (acc : List (List Nat)) (m : Nat), (∀ k ∈ l, k < n + 1) → acc.length ≤ m → (∀ r ∈ acc, r.length ≤ n + 2) →
        (l.foldl (wstep n c steps) acc).length ≤ m + l.length * 8 ^ n ∧ ∀ r ∈ (l.foldl (wstep n c steps) acc), r.length ≤ n + 2
  | [], acc, m, _, h1, h2 => by simpa using ⟨h1, h2⟩
  | k :: l, acc, m, hk, h1, h2 => by
    have hk0 := ih ((steps.getD k []).getD 1 0) k (hk k (.head _))
    rw [List.foldl_cons, List.length_cons, Nat.add_mul, Nat.one_mul, show m + (l.length * 8 ^ n + 8 ^ n) = (m + 8 ^ n) + l.length * 8 ^ n by omega]
    refine wfold_bounds n c steps ih l _ (m + 8 ^ n) (fun k' hk' => hk k' (.tail _ hk')) ?_ ?_
    · unfold wstep
      split
      · rw [List.length_append, List.length_map]; omega
      · omega
    · unfold wstep
      split
      · intro r hr
        rcases List.mem_append.mp hr with hr | hr
        · exact h2 r hr
        · obtain ⟨r', hr', rfl⟩ := List.mem_map.mp hr
          have := hk0.2 r' hr'
          rw [List.length_cons]; omega
      · exact h2

theorem walksL_bounds : ∀ (n c : Nat) (steps : List (List Nat)), steps.length = n → n ≤ 7 → (walksL n c steps).length ≤ 8 ^ n ∧ ∀ r ∈ walksL n c steps, r.length ≤ n + 1
  | 0, c, steps, _, _ => by simp [walksL]
  | n + 1, c, steps, h, h7 => by
    have ih := fun c' k (hk : k < n + 1) => walksL_bounds n c' (steps.take k ++ steps.drop (k + 1)) (by simp; omega) (by omega)
    have := wfold_bounds n c steps ih (List.range steps.length) [] 0 (fun k hk => by have := List.mem_range.mp hk; omega) (Nat.le_refl _) (fun r hr => by cases hr)
    rw [List.length_range, h] at this
    rw [walksL_succ, h]
    refine ⟨Nat.le_trans this.1 ?_, this.2⟩
    rw [Nat.pow_succ, Nat.zero_add, Nat.mul_comm]
    exact Nat.mul_le_mul_left _ (by omega)
end Mine

namespace Mine
open PySem PySem.Calls PySem.Spec PyProof.Rows
set_option maxRecDepth 100000
set_option linter.unusedVariables false
set_option linter.unusedSimpArgs false

section
variable {G : Gd}

theorem slL_from {n : Nat} (l : List (List Nat)) (k : Nat) (hw : l.length ≤ sizeLine) : ActSl G n (some (k : Int)) none none (.list (txts l)) (.list (txts (l.drop k))) := by
  have : txts (l.drop k) = cut (txts l) (some (k : Int)) none := by rw [cut_from]; exact List.map_drop
  rw [this]; exact sl_l _ _ _ (by rw [List.length_map]; exact hw)
theorem slL_to {n : Nat} (l : List (List Nat)) (k : Nat) (hw : l.length ≤ sizeLine) : ActSl G n none (some (k : Int)) none (.list (txts l)) (.list (txts (l.take k))) := by
  have : txts (l.take k) = cut (txts l) none (some (k : Int)) := by rw [cut_to]; exact List.map_take
  rw [this]; exact sl_l _ _ _ (by rw [List.length_map]; exact hw)
theorem addL {n : Nat} (xs ys : List (List Nat)) (h : xs.length + ys.length ≤ sizeLine) : Act G n (fun vs => binaryOp .Add (vs.getD 0 .none) (vs.getD 1 .none)) [.list (txts xs), .list (txts ys)] (.list (txts (xs ++ ys))) := by
  have : txts (xs ++ ys) = txts xs ++ txts ys := List.map_append
  rw [this]; exact add_ll _ _ (by rw [List.length_map, List.length_map]; exact h)

noncomputable def walksSto (c : Nat) (steps acc : List (List Nat)) : Sto := [("letter", .dat (.str (S [c]))), ("steps", .dat (.list (txts steps))), ("walks", .dat (.list (txts acc)))]

theorem walks_act (B : Base G) (N : Nm G) (hf : FnAt G 137 (stmtAt 12)) (hg : G.mg "_law_walks" = some (.ref 137)) : ∀ (n c : Nat) (steps : List (List Nat)), steps.length = n → n ≤ 7 → (∀ x ∈ steps, x.length = 2) →
    Act G (n + 1) (fun vs => call (.ref 137) vs) [.str (S [c]), .list (txts steps)] (.list (txts (walksL n c steps))) := by
  intro n
  induction n with
  | zero =>
    intro c steps hl _ _
    obtain ⟨ob, pm, cd, doc, hk, hd, hc⟩ := hf
    have hs := sizeLine_eq
    have he : steps = [] := List.length_eq_zero_iff.mp hl
    subst he
    refine fn_intro (names := ["letter", "steps"]) (body := bodyOf (stmtAt 12)) B hk hd hc rfl rfl rfl rfl ?_ rfl (by decide) ?_ ?_ rfl rfl rfl ?_
    · intro vs hv
      match vs, hv with
      | [a, b], _ => rfl
    · intro x hx
      simp only [List.mem_cons, List.not_mem_nil, or_false] at hx
      rcases hx with rfl | rfl
      · exact .inr ⟨rfl, fun L => rfl⟩
      · exact .inl rfl
    · intro L p hp; obtain rfl := List.mem_singleton.mp hp; rfl
    · intro A L
      have hd0 : decide (([] : List (List Nat)) = []) = true := rfl
      refine ex_ret (sx_if (b := true) (tv_cmp (a := .list (txts [])) (b := .list (txts [])) (ev_name rfl) (ev_list .nil (Nat.zero_le _)) (eq_ls [] [])) (fun _ => ex_ret (sx_ret (ev_list (.cons (fun _ _ => rfl) (ev_name rfl) .nil) (by show (1 : Nat) ≤ _; omega)))) (fun h => by cases h))
  | succ n ih =>
    intro c steps hl h7 h2
    obtain ⟨ob, pm, cd, doc, hk, hd, hc⟩ := id hf
    have hs := sizeLine_eq
    have hne : steps ≠ [] := fun q => by rw [q] at hl; cases hl
    refine fn_intro (names := ["letter", "steps"]) (body := bodyOf (stmtAt 12)) B hk hd hc rfl rfl rfl rfl ?_ rfl (by decide) ?_ ?_ rfl rfl rfl ?_
    · intro vs hv
      match vs, hv with
      | [a, b], _ => rfl
    · intro x hx
      simp only [List.mem_cons, List.not_mem_nil, or_false] at hx
      rcases hx with rfl | rfl
      · exact .inr ⟨rfl, fun L => rfl⟩
      · exact .inl rfl
    · intro L p hp; obtain rfl := List.mem_singleton.mp hp; rfl
    · intro A L
      refine ex_cons (sx_if (b := decide (steps = [])) (tv_cmp (a := .list (txts steps)) (b := .list (txts [])) (ev_name rfl) (ev_list .nil (Nat.zero_le _)) (eq_ls steps [])) (fun h => absurd (of_decide_eq_true h) hne) (fun _ => ex_nil)) ?_
      refine ex_cons (sx_assign (d := .list (txts [])) (ev_list .nil (Nat.zero_le _)) (.loc rfl) rfl) ?_
      refine ex_cons (σ' := walksSto c steps (walksL (n + 1) c steps)) (Sx.pre (σ := walksSto c steps []) ?_ (.cons rfl (.cons rfl (.cons rfl .nil)))) (ex_ret (sx_ret (ev_name rfl)))
      refine sx_for (itr_range (n := steps.length) (fv_builtin B rfl N.range0 N.range1) (call_b (fv_builtin B rfl N.len0 N.len1) (.cons (fun _ _ => rfl) (ev_name rfl) .nil) (by have := len_l (G := G) (n := n + 1) (txts steps) (by rw [List.length_map]; omega); rwa [List.length_map] at this)) (fun _ _ => rfl) (by omega)) (.loc rfl) ?_ (fun x => rfl)
      rw [walksL_succ]
      refine fold_run (fun (i : Nat) => D.int i) (walksSto c steps) (wstep n c steps) (List.range steps.length) [] ?_
      intro pre k post e
      have hk' : k < steps.length := List.mem_range.mp (by rw [e]; exact List.mem_append.mpr (.inr (.head _)))
      have ihb := fun c' k (hk : k < n + 1) => walksL_bounds n c' (steps.take k ++ steps.drop (k + 1)) (by simp; omega) (by omega)
      have hb := wfold_bounds n c steps ihb pre [] 0 (fun k hk => by have := List.mem_range.mp (show k ∈ List.range steps.length by rw [e]; exact List.mem_append.mpr (.inl hk)); omega) (Nat.le_refl _) (fun r hr => by cases hr)
      have hpl : pre.length ≤ 7 := by
        have := congrArg List.length e
        rw [List.length_range, List.length_append, List.length_cons] at this; omega
      have h8 : (8 : Nat) ^ n ≤ 8 ^ 6 := Nat.pow_le_pow_right (by omega) (by omega)
      have h86 : (8 : Nat) ^ 6 = 262144 := by decide
      generalize List.foldl (wstep n c steps) [] pre = acc at hb
      have hacc : acc.length ≤ 7 * 262144 := Nat.le_trans hb.1 (by rw [Nat.zero_add]; exact Nat.mul_le_mul hpl (by omega))
      -- the step at k
      obtain ⟨x, hx⟩ : ∃ x, steps[k]? = some x := ⟨_, List.getElem?_eq_getElem hk'⟩
      have hx2 := h2 x (List.mem_of_getElem? hx)
      have hgd : steps.getD k [] = x := by rw [List.getD_eq_getElem?_getD, hx]; rfl
      obtain ⟨p, q, rfl⟩ : ∃ p q, x = [p, q] := by
        match x, hx2 with
        | [p, q], _ => exact ⟨p, q, rfl⟩
      have hxd : (txts steps)[k]? = some (.str (S [p, q])) := by rw [List.getElem?_map, hx]; rfl
      have hlt : (txts steps).length ≤ sizeLine := by rw [List.length_map]; omega
      have ws : wstep n c steps acc k = if p = c ∧ [p, q] ∉ steps.take k then acc ++ (walksL n q (steps.take k ++ steps.drop (k + 1))).map (c :: ·) else acc := by unfold wstep; rw [hgd]; rfl
      have hb1 : decide (p = c ∧ [p, q] ∉ steps.take k) = (([p] == [c]) && decide ([p, q] ∉ steps.take k)) := by
        rw [Bool.eq_iff_iff]; simp
      rw [ws]
      refine ex_cons (sx_if (b := decide (p = c ∧ [p, q] ∉ steps.take k)) (out := .next (walksSto c steps (if p = c ∧ [p, q] ∉ steps.take k then acc ++ (walksL n q (steps.take k ++ steps.drop (k + 1))).map (c :: ·) else acc))) ?_ (fun h => ?_) (fun h => ?_)) ex_nil
      · rw [hb1]
        refine tv_and (tv_cmp (ev_item (ev_item (ev_name rfl) (ev_name rfl) (type_l _) lk_list (item_l _ _ _ hxd hlt) (fun _ _ => rfl)) ev_int (type_s _) lk_str (item_s [p, q] 0 p rfl (by show (2 : Nat) ≤ _; omega)) (fun _ _ => rfl)) (ev_name rfl) (eq_ss [p] [c])) (fun _ => ?_)
        exact tv_cmp (ev_item (ev_name rfl) (ev_name rfl) (type_l _) lk_list (item_l _ _ _ hxd hlt) (fun _ _ => rfl)) (ev_slice (ev_name rfl) .none (.some (ev_name rfl)) .none (type_l _) lk_list (slL_to steps k (by omega))) (notin_ls [p, q] (steps.take k))
      · have h := of_decide_eq_true h
        rw [if_pos h]
        have hrb := walksL_bounds n q (steps.take k ++ steps.drop (k + 1)) (by simp; omega) (by omega)
        refine Ex.post (ex_cons (sx_assign (ev_binop (ev_name rfl) (b := .list (txts ((walksL n q (steps.take k ++ steps.drop (k + 1))).map (c :: ·)))) ?_ (addL _ _ ?_)) (.loc rfl) rfl) ex_nil) (.cons rfl (.cons rfl (.cons rfl .nil)))
        · rw [show txts ((walksL n q (steps.take k ++ steps.drop (k + 1))).map (c :: ·)) = (walksL n q (steps.take k ++ steps.drop (k + 1))).map (fun r => D.str (S (c :: r))) from List.map_map ..]
          refine ev_comp (cl := [("letter", L + 1)]) (σc := [("letter", .dat (.str (S [c])))]) (ds := txts (walksL n q (steps.take k ++ steps.drop (k + 1)))) (itr_list ?_) ⟨fun x => rfl, rfl, rfl, by decide, ?_, ?_, ?_⟩ ?_ (by rw [List.length_map]; omega)
          · refine call_f (fv_global B rfl hg) hk hd (.cons (fun _ _ => rfl) (ev_item (ev_item (ev_name rfl) (ev_name rfl) (type_l _) lk_list (item_l _ _ _ hxd hlt) (fun _ _ => rfl)) ev_int (type_s _) lk_str (item_s [p, q] 1 q rfl (by show (2 : Nat) ≤ _; omega)) (fun _ _ => rfl)) (.cons (fun _ _ => rfl) ?_ .nil)) (ih q _ (by simp; omega) (by omega) ?_)
            · exact ev_binop (ev_slice (ev_name rfl) .none (.some (ev_name rfl)) .none (type_l _) lk_list (slL_to steps k (by omega))) (ev_slice (ev_name rfl) (.some (ev_binop (ev_name rfl) ev_int (add_ii _ _))) .none .none (type_l _) lk_list (slL_from steps (k + 1) (by omega))) (addL _ _ (by rw [List.length_take, List.length_drop]; omega))
            · intro y hy
              rcases List.mem_append.mp hy with hy | hy
              · exact h2 y (List.mem_of_mem_take hy)
              · exact h2 y (List.mem_of_mem_drop hy)
          · intro x c' h; obtain ⟨rfl, rfl⟩ := Prod.mk.inj (List.mem_singleton.mp h); rfl
          · intro C p' hp; cases hp
          · intro C' x V e
            obtain ⟨rfl, rfl⟩ := look1 e
            exact ⟨_, L + 1, rfl, rfl, .inl rfl, .inl rfl, rfl, rfl⟩
          · intro C'
            refine each_map _ _ _ fun r hr => ⟨_, asg_name (.loc rfl), upd_keeps rfl, ?_⟩
            have := hrb.2 r hr
            exact ev_binop (ev_name rfl) (ev_name rfl) (add_ss [c] r (by show 1 + _ ≤ _; omega))
        · rw [List.length_map]; omega
      · have h := of_decide_eq_false h
        rw [if_neg h]
        exact Ex.post ex_nil (.cons rfl (.cons rfl (.cons rfl .nil)))
end
end Mine

namespace Mine
open PySem PySem.Calls PySem.Spec PyProof.Rows
set_option maxRecDepth 100000
set_option linter.unusedVariables false
set_option linter.unusedSimpArgs false

/-- data without an object -/
noncomputable def D.flat : D → Prop
  | .none | .bool _ | .int _ | .flt _ | .str _ => True
  | _ => False
theorem Rd.any {k k' : Part} {v : Value} {d : D} (h : d.flat) (r : Rd k v d) : Rd k' v d := by
  cases r with
  | none => exact .none
  | bool b => exact .bool b
  | int i t => exact .int i t
  | flt x t ht => exact .flt x t ht
  | str x t => exact .str x t
  | list => cases h
  | tup => cases h
  | acc => cases h

section
variable {G : Gd} {Γ : Cx} {σ σ' : Sto} {out : Out}

/-- an object leaves the frozen part again -/
theorem Gr.unput {k k₂ : Part} {s s₂ : Shared} {a : Addr} {ob : Obj} (hk : k a = none) (ha : a ∉ V) (g : Gr V (k.put a ob) s k₂ s₂) : Gr V k s (fun b => if b = a then none else k₂ b) s₂ := by
  refine ⟨fun b o e => ?_, fun b o e => ?_, fun b hb => ?_, fun b o e => ?_, g.keep, g.there, g.os, g.bare, g.tab, g.tk⟩
  · have hb : b ≠ a := fun q => by rw [q, hk] at e; cases e
    rw [if_neg hb]
    exact g.ext b o (by unfold Part.put; rw [if_neg hb]; exact e)
  · by_cases hb : b = a
    · rw [if_pos hb] at e; cases e
    · rw [if_neg hb] at e; exact g.sub b o e
  · by_cases hb' : b = a
    · rw [if_pos hb']
    · rw [if_neg hb']; exact g.vol b hb
  · by_cases hb : b = a
    · rw [if_pos hb] at e; cases e
    · rw [if_neg hb] at e
      rcases g.new b o e with q | q
      · unfold Part.put at q; rw [if_neg hb] at q; exact .inl q
      · exact .inr q

/-- an owned list is looked at -/
theorem ev_borrow {x : Str} {ds : List D} {e : Expr} {d : D} (hx : σ.lookup x = some (.lst ds)) (h : Ev G Γ (upd σ x (.dat (.list ds))) e d) (hd : d.flat) : Ev G Γ σ e d := fun k o s Q E st hq => by
  obtain ⟨a, vs, n, o', hk, ha, st', _⟩ := st.freeze hx
  exact h _ o' s Q E st' fun k₂ s₂ v g r => hq _ s₂ v (g.unput hk ha) (r.any hd)

theorem tv_str {e : Expr} {l : List Nat} (h : Ev G Γ σ e (.str (S l))) (hl : l.length ≤ sizeLine) (he : ∀ whole, isTrue e Γ.env whole = (do let v ← whole; standAt e.pos; holding [v] (truthy v))) : Tv G Γ σ e (decide (l ≠ [])) := fun k o s Q E st hq =>
  wpAny_isTrue_value (h k o s _ E st fun k' s' v g r => by
    cases r
    have hs := sizeLine_eq
    refine P.truthy_str ?_ ?_
    · rw [S_length]; omega
    · have e : (((S l).length : Int) != 0) = decide (l ≠ []) := by
        rw [S_length, Bool.eq_iff_iff]
        cases l <;> simp
        omega
      rw [e]
      exact hq k' _ (g.trans (Gr.keeps (t := s'.toks + 1 + 1) (st.ok.grow g) (h' := s'.heap) (fun _ _ e => e) V))) (he _)

/-- a new list, owned from the first -/
theorem own_push {k o s x t} {vs : List Value} {ds : List D} (st : St G Γ σ k o s) (hx : ∀ W, σ.lookup x = some W → ∃ d, W = .dat d) (r : Rds k vs ds) (ht : 0 < t) :
    St G Γ σ k ((x, s.heap.objs.size) :: o) { s with heap := s.heap.push (seqO "list" vs.toArray 0), toks := t } ∧ Grs Γ k o s k ((x, s.heap.objs.size) :: o) { s with heap := s.heap.push (seqO "list" vs.toArray 0), toks := t } ∧
    (∀ y, y ≠ x → List.lookup y ((x, s.heap.objs.size) :: o) = o.lookup y) ∧ (∀ p ∈ o, ∀ ob, s.heap.get? p.2 = some ob → (s.heap.push (seqO "list" vs.toArray 0)).get? p.2 = some ob) ∧
    VRd k ((x, s.heap.objs.size) :: o) (s.heap.push (seqO "list" vs.toArray 0)) x (.ref s.heap.objs.size) (.lst ds) := by
  have g := Gr.keeps (t := t) st.ok (h' := s.heap.push (seqO "list" vs.toArray 0)) (fun b o e => Heap.get?_push_of_some _ e) V
  have st' := st.grow g
  have h0 := get?_size s.heap
  have ho : Heap.get? (s.heap.push (seqO "list" vs.toArray 0)) s.heap.objs.size = some (seqO "list" vs.toArray 0) := Heap.get?_push_size _ rfl
  have hk : k s.heap.objs.size = none := by
    cases e : k s.heap.objs.size with
    | none => rfl
    | some o' => have := st.ok.sub _ _ e; rw [h0] at this; cases this
  refine ⟨st'.own (x := x) hk (fun hm => ?_) (fun hm => ?_) ho (fun vs e => by cases e) hx, ⟨g.mono fun b hb => List.mem_append.mpr (.inr hb), fun p hp => ?_⟩, fun y hy => ?_, own_keeps st g, ⟨_, vs.toArray, 0, rfl, by simp, ho, r⟩⟩
  · obtain ⟨_, ob, h2, _⟩ := st.mutk _ hm
    rw [h0] at h2; cases h2
  · obtain ⟨p, hp, e⟩ := List.mem_map.mp hm
    obtain ⟨_, _, ob, h2, _⟩ := st.ownk p hp
    rw [e, h0] at h2; cases h2
  · rcases List.mem_cons.mp hp with rfl | hp
    · exact .inr h0
    · exact .inl (List.mem_map_of_mem hp)
  · rw [List.lookup_cons, show (y == x) = false from beq_eq_false_iff_ne.mpr hy]

noncomputable def dots : List Nat := [46, 46, 46]
noncomputable def splitL (l : List Nat) : List (List Nat) := (Txt.split (S l) (S dots)).map fun x => x.cps.toList

theorem vals_txts {k : Part} (l : List (Str × Tok)) : Rds k (strValues l) (txts ((l.map (·.1)).map fun x => x.cps.toList)) := by
  induction l with
  | nil => exact .nil
  | cons p l ih => exact .cons (show Rd k (.str p.1 p.2) (.str (S p.1.cps.toList)) by rw [← S_of]; exact .str _ _) ih

theorem split_own {k o s x t u} {A : Around} {l : List Nat} {Q : Value → Shared → Prop} {E} (st : St G Γ σ k o s) (hx : ∀ W, σ.lookup x = some W → ∃ d, W = .dat d) (hl : l.length ≤ 1000)
    (hq : ∀ k' o' s' v, St G Γ σ k' o' s' → Grs Γ k o s k' o' s' → (∀ y, y ≠ x → o'.lookup y = o.lookup y) → (∀ p ∈ o, ∀ ob, s.heap.get? p.2 = some ob → s'.heap.get? p.2 = some ob) → VRd k' o' s'.heap x v (.lst (txts (splitL l))) → Q v s') :
    wpAny G.M A (call (.builtin "str.split") [.str (S l) t, .str (S dots) u]) Q E s := by
  have hs := sizeLine_eq
  have hlen : (S l).length ≤ sizeLine := by rw [S_length]; omega
  have fin : ∀ (pairs : List (Str × Tok)) (tk : Nat), 0 < tk → pairs.map (·.1) = Txt.split (S l) (S dots) → Q (.ref s.heap.objs.size) { s with heap := s.heap.push (seqO "list" (strValues pairs).toArray 0), toks := tk } := fun pairs tk htk e => by
    have := own_push (t := tk) st hx (vals_txts (k := k) pairs) htk
    rw [e] at this
    obtain ⟨h1, h2, h3, h4, h5⟩ := this
    exact hq _ _ _ _ h1 h2 h3 h4 h5
  cases h1 : (decide ((S l).length < (S dots).length) || decide (Builtin.Str.strKind (S l) < Builtin.Str.strKind (S dots)))
  · cases hf : (Builtin.Str.occurrences (S l) (S dots) 0 (S l).length ((S l).length + 1)).isEmpty
    · have hn : (Builtin.Str.partsBetween (S l) (Builtin.Str.occurrences (S l) (S dots) 0 (S l).length ((S l).length + 1)) (S dots).length).length ≤ sizeLine := by
        unfold Builtin.Str.partsBetween
        have := StrLaws.occ_length_le (S l) (S dots) 0 (S l).length ((S l).length + 1)
        rw [List.length_map, List.length_zip, List.length_cons, List.length_map, List.length_append, S_length] at *
        simp only [List.length_cons, List.length_nil]
        omega
      refine call_meets F.slot_str_split (typeIs_str _ _ _) F.entry_str_split (F.args_str_split_2 _ _) (meets_str_split_sep (S l) (S dots) t u h1 rfl hf hlen hn) ?_
      show wants Q E _ { s with toks := _, heap := s.heap.push { cls := .type "list", data := .seq (strsFrom s.toks (Builtin.Str.partsBetween (S l) (Builtin.Str.occurrences (S l) (S dots) 0 (S l).length ((S l).length + 1)) (S dots).length)).toArray } }
      rw [strsFrom_eq]
      exact fin _ _ (Nat.lt_of_lt_of_le st.ok.tk (Nat.le_add_right _ _)) ((numbered_texts _ _).trans ((if_neg (ne_true_of_eq_false h1)).trans (if_neg (ne_true_of_eq_false hf))).symm)
    · exact call_meets F.slot_str_split (typeIs_str _ _ _) F.entry_str_split (F.args_str_split_2 _ _) (meets_str_split_not_found (S l) (S dots) t u h1 rfl hf)
        (fin [(S l, t)] s.toks st.ok.tk ((if_neg (ne_true_of_eq_false h1)).trans (if_pos hf)).symm)
  · exact call_meets F.slot_str_split (typeIs_str _ _ _) F.entry_str_split (F.args_str_split_2 _ _) (meets_str_split_cannot_occur (S l) (S dots) t u h1)
      (fin [(S l, t)] s.toks st.ok.tk (if_pos h1).symm)
end
end Mine

namespace Mine
open PySem PySem.Calls PySem.Spec PyProof.Rows
set_option maxRecDepth 100000
set_option linter.unusedVariables false
set_option linter.unusedSimpArgs false

section
variable {G : Gd} {Γ : Cx} {σ σ' : Sto} {out : Out}

theorem evv_split {x : Str} {o a : Expr} {apos pos : Pos} {l : List Nat} (ho : Ev G Γ σ o (.str (S l))) (ha : Ev G Γ σ a (.str (S dots))) (hx : ∀ W, σ.lookup x = some W → ∃ d, W = .dat d) (hl : l.length ≤ 1000)
    (hse : ∀ env rest, starEach (a :: rest) env = (false, eval a env) :: starEach rest env)
    (hbase : attributeBase o ("split" : Str) Γ.env (eval o Γ.env) = eval o Γ.env)
    (hfew : ((backTo pos (starEach [a] Γ.env)).all (fun x => !x.1) && (backToKw pos (keywordEach [] Γ.env)).all (fun x => x.1.isSome)
      && decide ([a].length + ([] : List Keyword).length + (if ([] : List Keyword).isEmpty then 0 else 1) < 30)) = true)
    (hline : (apos.endLine == pos.line) = true) : EvV G Γ σ (.Call (.Attribute o ("split" : Str) apos) [a] [] pos) x (.lst (txts (splitL l))) := fun k ow s Q E st hq => by
  refine wpAny_Call_method hbase hfew hline F.plainAttrs_str F.slot_str_split F.type_str_split (ho k ow s _ E st fun k₀ s₀ v₀ g₀ r₀ => ?_)
  have st₀ := st.grow g₀
  obtain ⟨t1, t2⟩ := type_s (G := G) (S l) k₀ s₀ v₀ st₀.ok r₀
  refine ⟨t1, t2, ?_⟩
  refine Calls.callWith_builtin (plain_evs (.cons hse ha .nil)) (evalArgs_evs (.cons hse ha .nil) st₀ fun k₁ s₁ vs g₁ r₁ => ?_)
  cases r₁ with
  | cons h1 r1 =>
  cases r1
  cases r₀ with
  | str _ t =>
  cases h1 with
  | str _ u =>
  refine split_own (st₀.grow g₁) hx hl fun k' o' s' v st' gs hlk hok hr => ?_
  exact hq k' o' s' v st' ((Grs.ofV (g₀.trans g₁)).trans gs) hlk (fun p hp ob e => hok p hp ob (own_keeps st₀ g₁ p hp ob (own_keeps st g₀ p hp ob e))) hr

theorem eraseIdx_snoc : ∀ (ds : List D), ds.eraseIdx (ds.length - 1) = ds.dropLast
  | [] => rfl
  | [_] => rfl
  | a :: b :: r => by
    have := eraseIdx_snoc (b :: r)
    simp only [List.length_cons, Nat.add_sub_cancel] at this ⊢
    rw [List.eraseIdx_cons_succ, this]; rfl

theorem Rds.erase {k : Part} : ∀ {vs : List Value} {ds : List D}, Rds k vs ds → ∀ i, Rds k (vs.eraseIdx i) (ds.eraseIdx i)
  | _, _, .nil, _ => .nil
  | _, _, .cons h r, 0 => r
  | _, _, .cons h r, i + 1 => .cons h (r.erase i)

/-- del x[i] -/
theorem sx_del {x : Str} {px p2 pos : Pos} {ie : Expr} {i : Int} {ds : List D} {j : Nat} (hx : σ.lookup x = some (.lst ds)) (hi : Ev G Γ σ ie (.int i)) (hfit : Builtin.List.listFitsIndex i = true) (hj : seqIndex? i ds.length = some j) (hsz : ds.length ≤ sizeLine)
    (hd : (x == ("__debug__" : Str)) = false := by decide) (hn : (x == ("__classdict__" : Str)) = false := by decide) :
    Sx G Γ σ (.Delete [.Subscript (.Name x px) ie p2] pos) (.next (upd σ x (.lst (ds.eraseIdx j)))) := fun k o s Q E st p => by
  refine wpAny_Delete (wpAny_deleteEach_cons (wpAny_delete_Subscript (wpAny_Name (load_var st hx (fun v r => ?_) hn) hd)))
  obtain ⟨a, vs, n, rfl, hl, hg, hr⟩ := r
  refine hi k o s _ E st fun k₁ s₁ u g₁ r₁ => ?_
  cases r₁ with
  | int _ t =>
  have st₁ := st.grow g₁
  have hao := mem_lookup hl
  have hg₁ := own_keeps st g₁ _ hao _ hg
  have hlen : vs.size = ds.length := by rw [← Array.length_toList, hr.length]
  refine wpAny_delItem_plain ⟨n, hg₁⟩ hfit (by rw [hlen]; exact hj) (fun h' hp hsb => wpAny_deleteEach_nil ?_) (by rw [hlen]; exact hsz)
  obtain ⟨n', hp⟩ := hp
  obtain ⟨hka, _, _, _, _⟩ := st₁.ownk _ hao
  have g₂ := Gr.ofSame (t := s₁.toks) st₁.ok hka hg₁ (fun vs e => by cases e) hsb ⟨_, hp⟩ st₁.ok.tk
  obtain ⟨st₂, gs⟩ := st₁.turn (W := .lst (ds.eraseIdx j)) hx hl (fun v ⟨b, _, _, e, hb, _⟩ => by rw [hl] at hb; cases hb; exact e) ⟨_, _, _, hg₁, rfl⟩ g₂ hka ⟨_, hp, fun vs e => by cases e⟩
    ⟨a, _, n', rfl, hl, hp, by
      have e : (vs.eraseIdxIfInBounds j).toList = vs.toList.eraseIdx j := by
        unfold Array.eraseIdxIfInBounds
        split
        · rename_i h; exact Array.toList_eraseIdx ..
        · rename_i h
          rw [List.eraseIdx_of_length_le]; simpa using h
      rw [e]; exact (hr.mono g₁.ext).erase j⟩
  exact p k₁ o _ st₂ ((Grs.ofV g₁).trans gs)

theorem isub_ii {n : Nat} (a b : Int) : Act G n (fun vs => inplaceOp .Sub (vs.getD 0 .none) (vs.getD 1 .none)) [.int a, .int b] (.int (a - b)) := act2 fun A k s v u Q E rm ok h1 h2 hq => by
  cases h1; cases h2; exact AutoIntOps.isub_0 (hq _ _ (.int _ _))
theorem iadd_ii {n : Nat} (a b : Int) : Act G n (fun vs => inplaceOp .Add (vs.getD 0 .none) (vs.getD 1 .none)) [.int a, .int b] (.int (a + b)) := act2 fun A k s v u Q E rm ok h1 h2 hq => by
  cases h1; cases h2; exact AutoIntOps.iadd_0 (hq _ _ (.int _ _))
end

-- what _ellipsis_match answers
noncomputable def ellGo (got : List Nat) (hi : Int) : List (List Nat) → Int → Bool
  | [], _ => true
  | w :: ws, lo => if find3 got w lo hi < 0 then false else ellGo got hi ws (find3 got w lo hi + w.length)
noncomputable def starts (x y : List Nat) : Bool := Txt.startswith (S x) (S y)
noncomputable def ends (x y : List Nat) : Bool := Txt.endswith (S x) (S y)
noncomputable def ellC (got : List Nat) (ws : List (List Nat)) (lo hi : Int) : Bool := if lo > hi then false else ellGo got hi ws lo
noncomputable def ellB (got : List Nat) (ws : List (List Nat)) (lo : Int) : Bool :=
  if ws.getLastD [] ≠ [] then (if ends got (ws.getLastD []) then ellC got ws.dropLast lo (got.length - (ws.getLastD []).length) else false) else ellC got ws lo got.length
noncomputable def ellA (got : List Nat) (ws : List (List Nat)) : Bool :=
  if ws.headD [] ≠ [] then (if starts got (ws.headD []) then ellB got ws.tail (ws.headD []).length else false) else ellB got ws 0
noncomputable def ell (want got : List Nat) : Bool := if isIn dots want then ellA got (splitL want) else want == got
end Mine

namespace Mine
open PySem PySem.Calls PySem.Spec PyProof.Rows
set_option maxRecDepth 100000
set_option linter.unusedVariables false
set_option linter.unusedSimpArgs false

theorem splitL_fit {l : List Nat} (hl : l.length ≤ sizeLine) : ∀ w ∈ splitL l, w.length ≤ sizeLine := by
  intro w hw
  obtain ⟨x, hx, rfl⟩ := List.mem_map.mp hw
  have hl' : (S l).length ≤ sizeLine := by rw [S_length]; exact hl
  rw [Array.length_toList]
  show x.length ≤ sizeLine
  unfold Txt.split at hx
  split at hx
  · rw [List.mem_singleton.mp hx]; exact hl'
  · split at hx
    · rw [List.mem_singleton.mp hx]; exact hl'
    · unfold Builtin.Str.partsBetween at hx
      obtain ⟨p, _, rfl⟩ := List.mem_map.mp hx
      exact fits_strSub _ _ hl'

theorem splitL_two {l : List Nat} (h : isIn dots l = true) : 2 ≤ (splitL l).length := by
  unfold isIn at h
  obtain ⟨i, hi, hs⟩ := (StrLaws.found_iff (S l) (S dots)).mp h
  have e1 : (decide ((S l).length < (S dots).length) || decide (Builtin.Str.strKind (S l) < Builtin.Str.strKind (S dots))) = false := by
    rw [Bool.or_eq_false_iff]
    constructor
    · exact decide_eq_false (by omega)
    · refine decide_eq_false ?_
      have : Builtin.Str.strKind (S dots) = 1 := by decide +kernel
      rw [this]
      unfold Builtin.Str.strKind
      split
      · omega
      · split <;> omega
  unfold splitL Txt.split
  rw [List.length_map, e1]
  have e2 : (Builtin.Str.occurrences (S l) (S dots) 0 (S l).length ((S l).length + 1)).isEmpty = false := by
    rcases StrLaws.occ_head (S l) (S dots) ((S l).length + 1) (by omega) with ⟨_, h2⟩ | ⟨i, r, h1, _⟩
    · exact absurd ⟨hi, hs⟩ (h2 i)
    · rw [h1]; rfl
  rw [e2]
  simp only [Bool.false_eq_true, if_false]
  unfold Builtin.Str.partsBetween
  rw [List.length_map, List.length_zip, List.length_cons, List.length_map, List.length_append]
  have : 0 < (Builtin.Str.occurrences (S l) (S dots) 0 (S l).length ((S l).length + 1)).length := by
    rw [List.length_pos_iff]; intro q; rw [q] at e2; cases e2
  simp only [List.length_cons, List.length_nil]
  omega

section
variable {G : Gd} {A : Around} {n : Nat} {pm cd doc : Value} {L : Addr}

noncomputable def forBody : Stmt → List Stmt
  | .For _ _ b _ _ => b
  | _ => []
noncomputable abbrev ΓE (A : Around) (n : Nat) (pm cd doc : Value) (L : Addr) : Cx := cx A n (defOf (stmtAt 9) pm cd doc) L 125
noncomputable def ellSto (got : List Nat) (ws : Vl) (lo hi : Int) : Sto := [("got", .dat (.str (S got))), ("ws", ws), ("startpos", .dat (.int lo)), ("endpos", .dat (.int hi))]

theorem find_act {n : Nat} (got w : List Nat) (lo hi : Int) : Act G n (fun vs => call (.builtin "str.find") vs) [.str (S got), .str (S w), .int lo, .int hi] (.int (find3 got w lo hi)) := find_ssii _ _ _ _

theorem ell_loop (B : Base G) (N : Nm G) (got : List Nat) (W : Vl) (hi : Int) : ∀ (ws : List (List Nat)) (lo : Int), (∀ w ∈ ws, w.length ≤ sizeLine) →
    (ellGo got hi ws lo = true → ∃ lo', Fold G (ΓE A n pm cd doc L) "w" (forBody ((bodyOf (stmtAt 9)).getD 9 (.Pass default))) (ellSto got W lo hi) (txts ws) (.next (ellSto got W lo' hi))) ∧
    (ellGo got hi ws lo = false → Fold G (ΓE A n pm cd doc L) "w" (forBody ((bodyOf (stmtAt 9)).getD 9 (.Pass default))) (ellSto got W lo hi) (txts ws) (.ret (.bool false)))
  | [], lo, _ => ⟨fun _ => ⟨lo, .nil⟩, fun h => by cases h⟩
  | w :: ws, lo, hw => by
    have h1 : (find3 got w lo hi < 0 → Ex G (ΓE A n pm cd doc L) (upd (ellSto got W lo hi) "w" (.dat (.str (S w)))) (forBody ((bodyOf (stmtAt 9)).getD 9 (.Pass default))) (.ret (.bool false))) ∧
        (¬ find3 got w lo hi < 0 → Ex G (ΓE A n pm cd doc L) (upd (ellSto got W lo hi) "w" (.dat (.str (S w)))) (forBody ((bodyOf (stmtAt 9)).getD 9 (.Pass default))) (.next (ellSto got W (find3 got w lo hi + w.length) hi))) := by
      constructor
      · intro h
        refine ex_cons (sx_assign (ev_meth (ev_name rfl) (type_s _) F.plainAttrs_str F.slot_str_find F.type_str_find (.cons (fun _ _ => rfl) (ev_name rfl) (.cons (fun _ _ => rfl) (ev_name rfl) (.cons (fun _ _ => rfl) (ev_name rfl) .nil))) (find_act got w lo hi) rfl rfl rfl) (.loc rfl) rfl) ?_
        exact ex_ret (sx_if (tv_cmp (ev_name rfl) ev_int (lt_ii _ _)) (fun _ => ex_ret (sx_ret ev_bool)) (fun q => absurd h (of_decide_eq_false q)))
      · intro h
        refine ex_cons (sx_assign (ev_meth (ev_name rfl) (type_s _) F.plainAttrs_str F.slot_str_find F.type_str_find (.cons (fun _ _ => rfl) (ev_name rfl) (.cons (fun _ _ => rfl) (ev_name rfl) (.cons (fun _ _ => rfl) (ev_name rfl) .nil))) (find_act got w lo hi) rfl rfl rfl) (.loc rfl) rfl) ?_
        refine ex_cons (sx_if (tv_cmp (ev_name rfl) ev_int (lt_ii _ _)) (fun q => absurd (of_decide_eq_true q) h) (fun _ => ex_nil)) ?_
        exact Ex.post (ex_cons (sx_aug rfl (call_b (fv_builtin B rfl N.len0 N.len1) (.cons (fun _ _ => rfl) (ev_name rfl) .nil) (len_s w (hw w (.head _)))) (.loc rfl) (iadd_ii _ _)) ex_nil) (.cons rfl (.cons rfl (.cons rfl (.cons rfl .nil))))
    unfold ellGo
    by_cases h : find3 got w lo hi < 0
    · rw [if_pos h]
      exact ⟨fun q => (by cases q), fun _ => .stop (h1.1 h)⟩
    · rw [if_neg h]
      have ih := ell_loop B N got W hi ws (find3 got w lo hi + w.length) fun w' hw' => hw w' (.tail _ hw')
      exact ⟨fun q => let ⟨lo', f⟩ := ih.1 q; ⟨lo', .step (h1.2 h) f⟩, fun q => .step (h1.2 h) (ih.2 q)⟩
end
end Mine

namespace Mine
open PySem PySem.Calls PySem.Spec PyProof.Rows
set_option maxRecDepth 100000
set_option linter.unusedVariables false
set_option linter.unusedSimpArgs false

section
variable {G : Gd} {A : Around} {n : Nat} {pm cd doc : Value} {L : Addr}

theorem ell_stageC (B : Base G) (N : Nm G) (got : List Nat) (hi lo : Int) (ws : List (List Nat)) (hw : ∀ w ∈ ws, w.length ≤ sizeLine) :
    Ex G (ΓE A n pm cd doc L) (ellSto got (.lst (txts ws)) lo hi) ((bodyOf (stmtAt 9)).drop 8) (.ret (.bool (ellC got ws lo hi))) := by
  unfold ellC
  by_cases h : lo > hi
  · rw [if_pos h]
    exact ex_ret (sx_if (b := decide (lo > hi)) (tv_cmp (ev_name rfl) (ev_name rfl) (gt_ii _ _)) (fun _ => ex_ret (sx_ret ev_bool)) (fun q => absurd h (of_decide_eq_false q)))
  · rw [if_neg h]
    refine ex_cons (sx_if (b := decide (lo > hi)) (tv_cmp (ev_name rfl) (ev_name rfl) (gt_ii _ _)) (fun q => absurd (of_decide_eq_true q) h) (fun _ => ex_nil)) ?_
    refine ex_freeze (x := "ws") (ds := txts ws) rfl (Ex.pre (σ := ellSto got (.dat (.list (txts ws))) lo hi) ?_ (.cons rfl (.cons rfl (.cons rfl (.cons rfl .nil)))))
    have hl := ell_loop (A := A) (n := n) (pm := pm) (cd := cd) (doc := doc) (L := L) B N got (.dat (.list (txts ws))) hi ws lo hw
    cases hg : ellGo got hi ws lo with
    | true =>
      obtain ⟨lo', f⟩ := hl.1 hg
      refine ex_cons (sx_for (itr_list (ev_name rfl)) (.loc rfl) f (fun x => rfl)) (ex_ret (sx_ret ev_bool))
    | false => exact ex_ret (sx_for (itr_list (ev_name rfl)) (.loc rfl) (hl.2 hg) (fun x => rfl))

theorem last_idx (ds : List D) (h : ds ≠ []) : seqIndex? (-1) ds.length = some (ds.length - 1) := by
  have := List.length_pos_iff.mpr h
  unfold seqIndex?
  simp
  omega

theorem ell_stageB (B : Base G) (N : Nm G) (got : List Nat) (lo : Int) (ws : List (List Nat)) (hne : ws ≠ []) (hw : ∀ w ∈ ws, w.length ≤ sizeLine) (hsz : ws.length ≤ sizeLine) (hgot : got.length ≤ sizeLine) :
    Ex G (ΓE A n pm cd doc L) (ellSto got (.lst (txts ws)) lo got.length) ((bodyOf (stmtAt 9)).drop 6) (.ret (.bool (ellB got ws lo))) := by
  have hne' : txts ws ≠ [] := fun q => hne (List.map_eq_nil_iff.mp q)
  have hlast : (txts ws).getLast? = some (.str (S (ws.getLastD []))) := by
    rw [List.getLast?_map, List.getLast?_eq_some_getLast hne, List.getLastD_eq_getLast?, List.getLast?_eq_some_getLast hne]; rfl
  have hlm : (ws.getLastD []).length ≤ sizeLine := by
    rw [List.getLastD_eq_getLast?, List.getLast?_eq_some_getLast hne]; exact hw _ (List.getLast_mem hne)
  unfold ellB
  generalize hz : ws.getLastD [] = z at hlast hlm ⊢
  refine ex_cons (sx_assign (d := .str (S z)) (ev_borrow (x := "ws") (ds := txts ws) rfl (ev_item (ev_name rfl) (ev_unop ev_int (neg_i 1)) (type_l _) lk_list (item_neg _ _ hlast (by rw [List.length_map]; exact hsz)) (fun _ _ => rfl)) trivial) (.loc rfl) rfl) ?_
  by_cases h : z ≠ []
  · rw [if_pos h]
    cases he : ends got z with
    | true =>
      have hend : Act G n (fun vs => call (.builtin "str.endswith") vs) [.str (S got), .str (S z)] (.bool true) := by rw [← he]; exact ends_ss got z
      rw [if_pos rfl]
      have hdrop : (txts ws).eraseIdx ((txts ws).length - 1) = txts ws.dropLast := by rw [eraseIdx_snoc]; simp [txts]
      refine ex_cons (sx_if (b := decide (z ≠ [])) (out := .next (ellSto got (.lst (txts ws.dropLast)) lo (got.length - z.length))) (tv_str (ev_name rfl) hlm fun _ => rfl) (fun _ => ?_) (fun q => absurd h (of_decide_eq_false q))) (ell_stageC B N got _ lo _ fun w hw' => hw w ((List.dropLast_sublist ws).subset hw'))
      refine ex_cons (sx_if (b := true) (tv_bool (ev_meth (ev_name rfl) (type_s _) F.plainAttrs_str F.slot_str_endswith F.type_str_endswith (.cons (fun _ _ => rfl) (ev_name rfl) .nil) hend rfl rfl rfl) fun _ => rfl) (fun _ => ?_) (fun q => by cases q)) ex_nil
      refine ex_cons (sx_aug rfl (call_b (fv_builtin B rfl N.len0 N.len1) (.cons (fun _ _ => rfl) (ev_name rfl) .nil) (len_s z hlm)) (.loc rfl) (isub_ii _ _)) ?_
      refine Ex.post (ex_cons (sx_del (i := -1) (ds := txts ws) rfl (ev_unop ev_int (neg_i 1)) (by decide) (last_idx _ hne') (by rw [List.length_map]; exact hsz)) ex_nil) (.cons rfl (.cons ?_ (.cons rfl (.cons rfl .nil))))
      rw [hdrop]; rfl
    | false =>
      have hend : Act G n (fun vs => call (.builtin "str.endswith") vs) [.str (S got), .str (S z)] (.bool false) := by rw [← he]; exact ends_ss got z
      rw [if_neg (by decide)]
      exact ex_ret (sx_if (b := decide (z ≠ [])) (tv_str (ev_name rfl) hlm fun _ => rfl) (fun _ => ex_ret (sx_if (b := false) (tv_bool (ev_meth (ev_name rfl) (type_s _) F.plainAttrs_str F.slot_str_endswith F.type_str_endswith (.cons (fun _ _ => rfl) (ev_name rfl) .nil) hend rfl rfl rfl) fun _ => rfl) (fun q => by cases q) (fun _ => ex_ret (sx_ret ev_bool)))) (fun q => absurd h (of_decide_eq_false q)))
  · rw [if_neg h]
    refine ex_cons (sx_if (b := decide (z ≠ [])) (tv_str (ev_name rfl) hlm fun _ => rfl) (fun q => absurd (of_decide_eq_true q) h) (fun _ => ex_nil)) ?_
    exact Ex.pre (ell_stageC B N got _ lo _ hw) (.cons rfl (.cons rfl (.cons rfl (.cons rfl .nil))))

theorem ell_stageA (B : Base G) (N : Nm G) (got : List Nat) (ws : List (List Nat)) (hne : 2 ≤ ws.length) (hw : ∀ w ∈ ws, w.length ≤ sizeLine) (hsz : ws.length ≤ sizeLine) (hgot : got.length ≤ sizeLine) :
    Ex G (ΓE A n pm cd doc L) (ellSto got (.lst (txts ws)) 0 got.length) ((bodyOf (stmtAt 9)).drop 4) (.ret (.bool (ellA got ws))) := by
  obtain ⟨z, r, rfl⟩ : ∃ z r, ws = z :: r := by
    match ws, hne with
    | z :: r, _ => exact ⟨z, r, rfl⟩
  have hr : r ≠ [] := fun q => by rw [q] at hne; simp at hne
  have hlm := hw z (.head _)
  unfold ellA
  show Ex _ _ _ _ (.ret (.bool (if z ≠ [] then (if starts got z then ellB got r z.length else false) else ellB got (z :: r) 0)))
  refine ex_cons (sx_assign (d := .str (S z)) (ev_borrow (x := "ws") (ds := txts (z :: r)) rfl (ev_item (ev_name rfl) ev_int (type_l _) lk_list (item_l _ 0 _ rfl (by rw [List.length_map]; exact hsz)) (fun _ _ => rfl)) trivial) (.loc rfl) rfl) ?_
  by_cases h : z ≠ []
  · rw [if_pos h]
    cases he : starts got z with
    | true =>
      have hend : Act G n (fun vs => call (.builtin "str.startswith") vs) [.str (S got), .str (S z)] (.bool true) := by rw [← he]; exact starts_ss got z
      rw [if_pos rfl]
      refine ex_cons (sx_if (b := decide (z ≠ [])) (out := .next (ellSto got (.lst (txts r)) z.length got.length)) (tv_str (ev_name rfl) hlm fun _ => rfl) (fun _ => ?_) (fun q => absurd h (of_decide_eq_false q))) (ell_stageB B N got _ _ hr (fun w hw' => hw w (.tail _ hw')) (by rw [List.length_cons] at hsz; omega) hgot)
      refine ex_cons (sx_if (b := true) (tv_bool (ev_meth (ev_name rfl) (type_s _) F.plainAttrs_str F.slot_str_startswith F.type_str_startswith (.cons (fun _ _ => rfl) (ev_name rfl) .nil) hend rfl rfl rfl) fun _ => rfl) (fun _ => ?_) (fun q => by cases q)) ex_nil
      refine ex_cons (sx_assign (call_b (fv_builtin B rfl N.len0 N.len1) (.cons (fun _ _ => rfl) (ev_name rfl) .nil) (len_s z hlm)) (.loc rfl) rfl) ?_
      exact Ex.post (ex_cons (sx_del (i := 0) (j := 0) (ds := txts (z :: r)) rfl ev_int (by decide) (by unfold seqIndex?; simp) (by rw [List.length_map]; exact hsz)) ex_nil) (.cons rfl (.cons rfl (.cons rfl (.cons rfl .nil))))
    | false =>
      have hend : Act G n (fun vs => call (.builtin "str.startswith") vs) [.str (S got), .str (S z)] (.bool false) := by rw [← he]; exact starts_ss got z
      rw [if_neg (by decide)]
      exact ex_ret (sx_if (b := decide (z ≠ [])) (tv_str (ev_name rfl) hlm fun _ => rfl) (fun _ => ex_ret (sx_if (b := false) (tv_bool (ev_meth (ev_name rfl) (type_s _) F.plainAttrs_str F.slot_str_startswith F.type_str_startswith (.cons (fun _ _ => rfl) (ev_name rfl) .nil) hend rfl rfl rfl) fun _ => rfl) (fun q => by cases q) (fun _ => ex_ret (sx_ret ev_bool)))) (fun q => absurd h (of_decide_eq_false q)))
  · rw [if_neg h]
    refine ex_cons (sx_if (b := decide (z ≠ [])) (tv_str (ev_name rfl) hlm fun _ => rfl) (fun q => absurd (of_decide_eq_true q) h) (fun _ => ex_nil)) ?_
    exact Ex.pre (ell_stageB B N got _ _ (by simp) hw hsz hgot) (.cons rfl (.cons rfl (.cons rfl (.cons rfl .nil))))
end
end Mine

namespace Mine
open PySem PySem.Calls PySem.Spec PyProof.Rows
set_option maxRecDepth 100000
set_option linter.unusedVariables false
set_option linter.unusedSimpArgs false

theorem splitL_few (l : List Nat) : (splitL l).length ≤ l.length + 2 := by
  unfold splitL Txt.split
  rw [List.length_map]
  split
  · simp
  · split
    · simp
    · unfold Builtin.Str.partsBetween
      have := StrLaws.occ_length_le (S l) (S dots) 0 (S l).length ((S l).length + 1)
      rw [List.length_map, List.length_zip, List.length_cons, List.length_map, List.length_append]
      rw [S_length] at this
      simp only [List.length_cons, List.length_nil]
      rw [S_length]
      omega

structure Nm2 (G : Gd) : Prop where
  mark : ∃ t, G.mg "ELLIPSIS_MARKER" = some (.str (S dots) t)
  empty : ∃ t, G.mg "EMPTYSTRING" = some (.str (S []) t)

section
variable {G : Gd} {Γ : Cx} {σ : Sto}

theorem ev_mark (B : Base G) (N2 : Nm2 G) {p : Pos} (hk : Γ.env.kindOf "ELLIPSIS_MARKER" = some .globalImplicit) : Ev G Γ σ (.Name "ELLIPSIS_MARKER" p) (.str (S dots)) := by
  obtain ⟨t, h⟩ := N2.mark
  exact ev_global (fv_global B hk h) fun k => .str _ t

theorem ell_act {n : Nat} (B : Base G) (N : Nm G) (N2 : Nm2 G) (hf : FnAt G 125 (stmtAt 9)) (want got : List Nat) (h1 : want.length ≤ 1000) (h2 : got.length ≤ 1000) :
    Act G (n + 1) (fun vs => call (.ref 125) vs) [.str (S want), .str (S got)] (.bool (ell want got)) := by
  obtain ⟨ob, pm, cd, doc, hk, hd, hc⟩ := hf
  have hs := sizeLine_eq
  refine fn_intro (names := ["want", "got"]) (body := bodyOf (stmtAt 9)) B hk hd hc rfl rfl rfl rfl ?_ rfl (by decide) ?_ ?_ rfl rfl rfl ?_
  · intro vs hv
    match vs, hv with
    | [a, b], _ => rfl
  · intro x hx
    simp only [List.mem_cons, List.not_mem_nil, or_false] at hx
    rcases hx with rfl | rfl
    · exact .inl rfl
    · exact .inl rfl
  · intro L p hp
    cases hp
  · intro A L
    unfold ell
    cases hin : isIn dots want with
    | false =>
      have hni : Act G n (fun vs => compareOp .NotIn (vs.getD 0 .none) (vs.getD 1 .none)) [.str (S dots), .str (S want)] (.bool true) := by have := notin_ss (G := G) (n := n) dots want; rwa [hin] at this
      exact ex_ret (sx_if (b := true) (tv_cmp (ev_mark B N2 rfl) (ev_name rfl) hni) (fun _ => ex_ret (sx_ret (ev_cmp (ev_name rfl) (ev_name rfl) (eq_ss _ _)))) (fun q => by cases q))
    | true =>
      have hni : Act G n (fun vs => compareOp .NotIn (vs.getD 0 .none) (vs.getD 1 .none)) [.str (S dots), .str (S want)] (.bool false) := by have := notin_ss (G := G) (n := n) dots want; rwa [hin] at this
      have htwo := splitL_two hin
      have hfit := splitL_fit (l := want) (by omega)
      have hfew := splitL_few want
      refine ex_cons (sx_if (b := false) (tv_cmp (ev_mark B N2 rfl) (ev_name rfl) hni) (fun q => by cases q) (fun _ => ex_nil)) ?_
      refine ex_cons (sx_assignV (evv_split (l := want) (ev_name rfl) (ev_mark B N2 rfl) (fun W e => by cases e) h1 (fun _ _ => rfl) rfl rfl rfl) (.loc rfl) rfl) ?_
      have hlen : Act G n (fun vs => call (.builtin "len") vs) [.list (txts (splitL want))] (.int (splitL want).length) := by
        have := len_l (G := G) (n := n) (txts (splitL want)) (by rw [List.length_map]; omega); rwa [List.length_map] at this
      have hge : Act G n (fun vs => compareOp .GtE (vs.getD 0 .none) (vs.getD 1 .none)) [.int (splitL want).length, .int 2] (.bool true) := by
        have := ge_ii (G := G) (n := n) (splitL want).length 2; rwa [decide_eq_true (by omega)] at this
      refine ex_cons (sx_assert (tv_cmp (ev_borrow (x := "ws") (ds := txts (splitL want)) rfl (call_b (fv_builtin B rfl N.len0 N.len1) (.cons (fun _ _ => rfl) (ev_name rfl) .nil) hlen) trivial) ev_int hge)) ?_
      refine ex_cons (sx_swap (ws := [("startpos", .dat (.int 0)), ("endpos", .dat (.int got.length))]) (.cons (fun _ _ => rfl) (evv_dat ev_int) (by show ("startpos" : Str) ∉ [("endpos" : Str)]; decide) (.cons (fun _ _ => rfl) (evv_dat (call_b (fv_builtin B rfl N.len0 N.len1) (.cons (fun _ _ => rfl) (ev_name rfl) .nil) (len_s got (by omega)))) (by show ("endpos" : Str) ∉ []; decide) .nil)) (.cons (.loc rfl) (.cons (.loc rfl) .nil)) rfl (by show (2 : Nat) ≤ _; omega) rfl rfl) ?_
      exact Ex.pre (ell_stageA B N got _ htwo hfit (by omega) (by omega)) (.cons rfl (.cons rfl (.cons rfl (.cons rfl .nil))))
end
end Mine

namespace Mine
open PySem PySem.Calls PySem.Spec PyProof.Rows
set_option maxRecDepth 100000
set_option linter.unusedVariables false
set_option linter.unusedSimpArgs false

noncomputable def ltF (a b : UInt64) : Bool := Float64.cmp a b == some .lt
noncomputable def eqF (a b : UInt64) : Bool := Float64.cmp a b == some .eq
noncomputable def leF (a b : UInt64) : Bool := Float64.cmp a b == some .lt || Float64.cmp a b == some .eq
noncomputable def max2F (a b : UInt64) : UInt64 := if ltF a b then b else a
noncomputable def min2F (a b : UInt64) : UInt64 := if ltF b a then b else a

theorem argBest2 (bt : Nat → Nat → Bool) : argBest bt 2 = if bt 1 0 = true then (if bt 2 1 = true then 2 else 1) else (if bt 2 0 = true then 2 else 0) := by
  show (if bt 2 (if bt 1 0 = true then 1 else 0) = true then 2 else if bt 1 0 = true then 1 else 0) = _
  cases bt 1 0 <;> simp

section
variable {G : Gd} {n : Nat}

theorem mul_ff (a b : UInt64) : Act G n (fun vs => binaryOp .Mult (vs.getD 0 .none) (vs.getD 1 .none)) [.flt a, .flt b] (.flt (Float64.mul a b)) := act2 fun A k s v u Q E rm ok h1 h2 hq => by
  cases h1; cases h2; exact AutoFloatOps.mul_0 (hq _ _ (.flt _ _ ok.tk))
theorem add_ff (a b : UInt64) : Act G n (fun vs => binaryOp .Add (vs.getD 0 .none) (vs.getD 1 .none)) [.flt a, .flt b] (.flt (Float64.add a b)) := act2 fun A k s v u Q E rm ok h1 h2 hq => by
  cases h1; cases h2; exact AutoFloatOps.add_0 (hq _ _ (.flt _ _ ok.tk))
theorem sub_ff (a b : UInt64) : Act G n (fun vs => binaryOp .Sub (vs.getD 0 .none) (vs.getD 1 .none)) [.flt a, .flt b] (.flt (Float64.sub a b)) := act2 fun A k s v u Q E rm ok h1 h2 hq => by
  cases h1; cases h2; exact AutoFloatOps.sub_0 (hq _ _ (.flt _ _ ok.tk))
theorem div_ff (a b : UInt64) (h : ¬ Float64.isZero b = true) : Act G n (fun vs => binaryOp .Div (vs.getD 0 .none) (vs.getD 1 .none)) [.flt a, .flt b] (.flt (Float64.div a b)) := act2 fun A k s v u Q E rm ok h1 h2 hq => by
  cases h1; cases h2; exact AutoFloatOps.truediv_1 h (hq _ _ (.flt _ _ ok.tk))
theorem mod_ff (a b : UInt64) (h : ¬ Float64.isZero b = true) : Act G n (fun vs => binaryOp .Mod (vs.getD 0 .none) (vs.getD 1 .none)) [.flt a, .flt b] (.flt (Float64.divmod a b).snd) := act2 fun A k s v u Q E rm ok h1 h2 hq => by
  cases h1; cases h2; exact AutoFloatOps.mod_1 h (hq _ _ (.flt _ _ ok.tk))
theorem sub_fi (a : UInt64) (b : Int) (h : ¬ Float64.isInf (Float64.ofInt b) = true) : Act G n (fun vs => binaryOp .Sub (vs.getD 0 .none) (vs.getD 1 .none)) [.flt a, .int b] (.flt (Float64.sub a (Float64.ofInt b))) := act2 fun A k s v u Q E rm ok h1 h2 hq => by
  cases h1; cases h2; exact AutoFloatOps.sub_fi_1 h (hq _ _ (.flt _ _ ok.tk))
theorem mul_if (b : Int) (a : UInt64) (h : ¬ Float64.isInf (Float64.ofInt b) = true) : Act G n (fun vs => binaryOp .Mult (vs.getD 0 .none) (vs.getD 1 .none)) [.int b, .flt a] (.flt (Float64.mul (Float64.ofInt b) a)) := act2 fun A k s v u Q E rm ok h1 h2 hq => by
  cases h1; cases h2; exact AutoFloatOps.mul_if_1 h (hq _ _ (.flt _ _ ok.tk))
noncomputable def divII (a b : Int) : UInt64 := Float64.ofFrac (decide (a < 0) != decide (b < 0)) a.natAbs b.natAbs
theorem div_ii (a b : Int) (h : ¬ (b == 0) = true) (hi : ¬ Float64.isInf (divII a b) = true) : Act G n (fun vs => binaryOp .Div (vs.getD 0 .none) (vs.getD 1 .none)) [.int a, .int b] (.flt (divII a b)) := act2 fun A k s v u Q E rm ok h1 h2 hq => by
  cases h1; cases h2; exact AutoIntOps.truediv_2 h hi (hq _ _ (.flt _ _ ok.tk))
theorem pow_ii (a b : Int) (hc0 : b ≥ 0) (hc1 : ¬(b == 0) = true) (hc2 : ¬(a == 0 || a == 1) = true) (hc3 : ¬(a == -1) = true) (hc4 : ¬Builtin.Int.intTooBig (((Builtin.Int.intBits a : Nat) : Int) * b) = true) : Act G n (fun vs => binaryOp .Pow (vs.getD 0 .none) (vs.getD 1 .none)) [.int a, .int b] (.int (a ^ b.toNat)) := act2 fun A k s v u Q E rm ok h1 h2 hq => by
  cases h1; cases h2; exact AutoIntOps.pow_4 hc0 hc1 hc2 hc3 hc4 (hq _ _ (.int _ _))
theorem fdiv_ii (a b : Int) (hb : 0 < b) (h : ¬ Builtin.divisionGoesByPylong a b = true) : Act G n (fun vs => binaryOp .FloorDiv (vs.getD 0 .none) (vs.getD 1 .none)) [.int a, .int b] (.int (a / b)) := act2 fun A k s v u Q E rm ok h1 h2 hq => by
  cases h1; cases h2
  refine AutoIntOps.floordiv_1 (by simp; omega) h ?_
  rw [Int.fdiv_eq_ediv_of_nonneg a (by omega)]
  exact hq _ _ (.int _ _)
theorem eq_ff (a b : UInt64) : Act G n (fun vs => compareOp .Eq (vs.getD 0 .none) (vs.getD 1 .none)) [.flt a, .flt b] (.bool (eqF a b)) := act2 fun A k s v u Q E rm ok h1 h2 hq => by
  cases h1; cases h2; exact AutoFloatOps.eq_0 (hq _ s.toks (.bool _))
theorem le_ff (a b : UInt64) : Act G n (fun vs => compareOp .LtE (vs.getD 0 .none) (vs.getD 1 .none)) [.flt a, .flt b] (.bool (leF a b)) := act2 fun A k s v u Q E rm ok h1 h2 hq => by
  cases h1; cases h2; exact AutoFloatOps.le_0 (hq _ s.toks (.bool _))
theorem int_f {x : UInt64} {sg : Bool} {m : Nat} {e : Int} (hd : Float64.decode x = .fin sg m e) : Act G n (fun vs => call (.type "int") vs) [.flt x] (.int (Float64.truncOf sg m e)) := act1 fun A k s v Q E rm ok h1 hq => by
  cases h1; exact call_int_float hd (hq _ _ (.int _ _))

theorem max3_f (a b c : UInt64) : Act G n (fun vs => call (.builtin "max") vs) [.flt a, .flt b, .flt c] (.flt (max2F (max2F a b) c)) := fun A k s vs Q E rm ok r hq => by
  cases r with
  | cons h1 r => cases r with
  | cons h2 r => cases r with
  | cons h3 r =>
  cases r
  cases h1 with
  | flt _ t ht =>
  cases h2 with
  | flt _ u hu =>
  cases h3 with
  | flt _ w hw =>
  have hT : (s.heap.push { cls := .type "tuple", data := .seq #[.float a t, .float b u, .float c w] }).IsTuple s.heap.objs.size #[.float a t, .float b u, .float c w] := ⟨_, Heap.get?_push_size _ rfl, rfl, 0, rfl⟩
  have hsz : (s.heap.push { cls := .type "tuple", data := .seq #[.float a t, .float b u, .float c w] }).objs.size = s.heap.objs.size + 1 := Heap.size_push ..
  refine wpAny_with_toks (n := 1) ok.tk (call_max_three (wpAny_pyIter_tuple hT ?_))
  refine ⟨_, [_, s.heap.objs.size], [_], _, _, _, _, rfl, Walks.tuple (A := A.in1) rm.hh _ s.heap.objs.size (by rw [hsz]; exact Nat.ne_of_lt (Nat.lt_succ_self _)) #[.float a t, .float b u, .float c w],
    ⟨⟨_, Heap.get?_push_size _ rfl, rfl, rfl⟩, hT.push _⟩, fun d hd => ?_, (by show (0 : Nat) < 3; omega), Flt.cmpOf_gt #[.float a t, .float b u, .float c w] (fun v hv => ?_), fun v h' tk hP hk htk => ?_⟩
  · show d < ((s.heap.push _).push _).objs.size
    rw [Heap.size_push, hsz]
    rcases List.mem_cons.mp hd with rfl | hd
    · rw [hsz]; exact Nat.lt_succ_self _
    · rcases List.mem_cons.mp hd with rfl | hd
      · exact Nat.lt_succ_of_lt (Nat.lt_succ_self _)
      · cases hd
  · simp at hv
    rcases hv with rfl | rfl | rfl
    · exact .float _ _
    · exact .float _ _
    · exact .float _ _
  · have g := Gr.keeps (t := tk) ok (h' := h') (fun b o e => hk b o (fun hm => by
      simp only [List.mem_cons, List.not_mem_nil, or_false] at hm
      rw [hsz] at hm
      exact Nat.ne_of_lt (Nat.lt_succ_of_lt (Heap.lt_size e)) hm) (Heap.get?_push_of_some _ (Heap.get?_push_of_some _ e))) V htk
    refine hq k _ _ g ?_
    change (#[Value.float a t, .float b u, .float c w] : Array Value)[argBest _ 2]? = some v at hP
    rw [argBest2] at hP
    have e10 : Flt.ltV ((#[Value.float a t, .float b u, .float c w] : Array Value).getD 0 .none) ((#[Value.float a t, .float b u, .float c w] : Array Value).getD 1 .none) = ltF a b := rfl
    have e21 : Flt.ltV ((#[Value.float a t, .float b u, .float c w] : Array Value).getD 1 .none) ((#[Value.float a t, .float b u, .float c w] : Array Value).getD 2 .none) = ltF b c := rfl
    have e20 : Flt.ltV ((#[Value.float a t, .float b u, .float c w] : Array Value).getD 0 .none) ((#[Value.float a t, .float b u, .float c w] : Array Value).getD 2 .none) = ltF a c := rfl
    simp only [e10, e21, e20] at hP
    unfold max2F
    cases hab : ltF a b <;> rw [hab] at hP <;> simp only [if_true, if_false, Bool.false_eq_true] at hP ⊢
    · cases hac : ltF a c <;> rw [hac] at hP <;> simp only [if_true, if_false, Bool.false_eq_true] at hP ⊢
      · cases hP; exact .flt _ _ ht
      · cases hP; exact .flt _ _ hw
    · cases hbc : ltF b c <;> rw [hbc] at hP <;> simp only [if_true, if_false, Bool.false_eq_true] at hP ⊢
      · cases hP; exact .flt _ _ hu
      · cases hP; exact .flt _ _ hw
theorem min3_f (a b c : UInt64) : Act G n (fun vs => call (.builtin "min") vs) [.flt a, .flt b, .flt c] (.flt (min2F (min2F a b) c)) := fun A k s vs Q E rm ok r hq => by
  cases r with
  | cons h1 r => cases r with
  | cons h2 r => cases r with
  | cons h3 r =>
  cases r
  cases h1 with
  | flt _ t ht =>
  cases h2 with
  | flt _ u hu =>
  cases h3 with
  | flt _ w hw =>
  have hT : (s.heap.push { cls := .type "tuple", data := .seq #[.float a t, .float b u, .float c w] }).IsTuple s.heap.objs.size #[.float a t, .float b u, .float c w] := ⟨_, Heap.get?_push_size _ rfl, rfl, 0, rfl⟩
  have hsz : (s.heap.push { cls := .type "tuple", data := .seq #[.float a t, .float b u, .float c w] }).objs.size = s.heap.objs.size + 1 := Heap.size_push ..
  refine wpAny_with_toks (n := 1) ok.tk (call_min_three (wpAny_pyIter_tuple hT ?_))
  refine ⟨_, [_, s.heap.objs.size], [_], _, _, _, _, rfl, Walks.tuple (A := A.in1) rm.hh _ s.heap.objs.size (by rw [hsz]; exact Nat.ne_of_lt (Nat.lt_succ_self _)) #[.float a t, .float b u, .float c w],
    ⟨⟨_, Heap.get?_push_size _ rfl, rfl, rfl⟩, hT.push _⟩, fun d hd => ?_, (by show (0 : Nat) < 3; omega), Flt.cmpOf_lt #[.float a t, .float b u, .float c w] (fun v hv => ?_), fun v h' tk hP hk htk => ?_⟩
  · show d < ((s.heap.push _).push _).objs.size
    rw [Heap.size_push, hsz]
    rcases List.mem_cons.mp hd with rfl | hd
    · rw [hsz]; exact Nat.lt_succ_self _
    · rcases List.mem_cons.mp hd with rfl | hd
      · exact Nat.lt_succ_of_lt (Nat.lt_succ_self _)
      · cases hd
  · simp at hv
    rcases hv with rfl | rfl | rfl
    · exact .float _ _
    · exact .float _ _
    · exact .float _ _
  · have g := Gr.keeps (t := tk) ok (h' := h') (fun b o e => hk b o (fun hm => by
      simp only [List.mem_cons, List.not_mem_nil, or_false] at hm
      rw [hsz] at hm
      exact Nat.ne_of_lt (Nat.lt_succ_of_lt (Heap.lt_size e)) hm) (Heap.get?_push_of_some _ (Heap.get?_push_of_some _ e))) V htk
    refine hq k _ _ g ?_
    change (#[Value.float a t, .float b u, .float c w] : Array Value)[argBest _ 2]? = some v at hP
    rw [argBest2] at hP
    have e10 : Flt.ltV ((#[Value.float a t, .float b u, .float c w] : Array Value).getD 1 .none) ((#[Value.float a t, .float b u, .float c w] : Array Value).getD 0 .none) = ltF b a := rfl
    have e21 : Flt.ltV ((#[Value.float a t, .float b u, .float c w] : Array Value).getD 2 .none) ((#[Value.float a t, .float b u, .float c w] : Array Value).getD 1 .none) = ltF c b := rfl
    have e20 : Flt.ltV ((#[Value.float a t, .float b u, .float c w] : Array Value).getD 2 .none) ((#[Value.float a t, .float b u, .float c w] : Array Value).getD 0 .none) = ltF c a := rfl
    simp only [e10, e21, e20] at hP
    unfold min2F
    cases hab : ltF b a <;> rw [hab] at hP <;> simp only [if_true, if_false, Bool.false_eq_true] at hP ⊢
    · cases hac : ltF c a <;> rw [hac] at hP <;> simp only [if_true, if_false, Bool.false_eq_true] at hP ⊢
      · cases hP; exact .flt _ _ ht
      · cases hP; exact .flt _ _ hw
    · cases hbc : ltF c b <;> rw [hbc] at hP <;> simp only [if_true, if_false, Bool.false_eq_true] at hP ⊢
      · cases hP; exact .flt _ _ hu
      · cases hP; exact .flt _ _ hw

theorem min2_i (a b : Int) : Act G n (fun vs => call (.builtin "min") vs) [.int a, .int b] (.int (min a b)) := fun A k s vs Q E rm ok r hq => by
  cases r with
  | cons h1 r => cases r with
  | cons h2 r =>
  cases r
  cases h1 with
  | int _ t =>
  cases h2 with
  | int _ u =>
  have hT : (s.heap.push { cls := .type "tuple", data := .seq #[.int a t, .int b u] }).IsTuple s.heap.objs.size #[.int a t, .int b u] := ⟨_, Heap.get?_push_size _ rfl, rfl, 0, rfl⟩
  have hsz : (s.heap.push { cls := .type "tuple", data := .seq #[.int a t, .int b u] }).objs.size = s.heap.objs.size + 1 := Heap.size_push ..
  refine wpAny_with_toks (n := 1) ok.tk (call_min_two (wpAny_pyIter_tuple hT ?_))
  refine ⟨_, [_, s.heap.objs.size], [_], _, _, _, _, rfl, Walks.tuple (A := A.in1) rm.hh _ s.heap.objs.size (by rw [hsz]; exact Nat.ne_of_lt (Nat.lt_succ_self _)) #[.int a t, .int b u],
    ⟨⟨_, Heap.get?_push_size _ rfl, rfl, rfl⟩, hT.push _⟩, fun d hd => ?_, (by show (0 : Nat) < 2; omega), Flt.cmpOf_lt #[.int a t, .int b u] (fun v hv => ?_), fun v h' tk hP hk htk => ?_⟩
  · show d < ((s.heap.push _).push _).objs.size
    rw [Heap.size_push, hsz]
    rcases List.mem_cons.mp hd with rfl | hd
    · rw [hsz]; exact Nat.lt_succ_self _
    · rcases List.mem_cons.mp hd with rfl | hd
      · exact Nat.lt_succ_of_lt (Nat.lt_succ_self _)
      · cases hd
  · simp at hv
    rcases hv with rfl | rfl
    · exact .int _ _
    · exact .int _ _
  · have g := Gr.keeps (t := tk) ok (h' := h') (fun b o e => hk b o (fun hm => by
      simp only [List.mem_cons, List.not_mem_nil, or_false] at hm
      rw [hsz] at hm
      exact Nat.ne_of_lt (Nat.lt_succ_of_lt (Heap.lt_size e)) hm) (Heap.get?_push_of_some _ (Heap.get?_push_of_some _ e))) V htk
    refine hq k _ _ g ?_
    change (#[Value.int a t, .int b u] : Array Value)[if decide (b < a) = true then 1 else 0]? = some v at hP
    by_cases h : b < a
    · rw [decide_eq_true h] at hP; cases hP
      rw [Int.min_eq_right (by omega)]; exact .int _ _
    · rw [decide_eq_false h] at hP; cases hP
      rw [Int.min_eq_left (by omega)]; exact .int _ _
end
end Mine

namespace Mine
open PySem PySem.Calls PySem.Spec PyProof.Rows
set_option maxRecDepth 100000
set_option linter.unusedVariables false
set_option linter.unusedSimpArgs false

noncomputable abbrev F0 : UInt64 := 0x0000000000000000
noncomputable abbrev FH : UInt64 := 0x3fe0000000000000
noncomputable abbrev F1 : UInt64 := 0x3ff0000000000000
noncomputable abbrev F2 : UInt64 := 0x4000000000000000
noncomputable abbrev F4 : UInt64 := 0x4010000000000000
noncomputable abbrev F6 : UInt64 := 0x4018000000000000

noncomputable def finI (x : UInt64) : Option Int := match Float64.decode x with | .fin sg m e => some (Float64.truncOf sg m e) | _ => none
theorem int_fI {G : Gd} {n : Nat} {x : UInt64} {i : Int} (h : finI x = some i) : Act G n (fun vs => call (.type "int") vs) [.flt x] (.int i) := by
  unfold finI at h
  split at h
  · rename_i sg m e hd
    cases h; exact int_f hd
  · cases h

noncomputable def pF (s v : UInt64) : UInt64 := Float64.mul v (Float64.sub F1 s)
noncomputable def qF (s v f : UInt64) : UInt64 := Float64.mul v (Float64.sub F1 (Float64.mul s f))
noncomputable def tF (s v f : UInt64) : UInt64 := Float64.mul v (Float64.sub F1 (Float64.mul s (Float64.sub F1 f)))
noncomputable def six (i : Int) (v p q t : UInt64) : UInt64 × UInt64 × UInt64 :=
  if i = 0 then (v, t, p) else if i = 1 then (q, v, p) else if i = 2 then (p, v, t) else if i = 3 then (p, q, v) else if i = 4 then (t, p, v) else (v, p, q)
noncomputable def tri (x : UInt64 × UInt64 × UInt64) : D := .tup [.flt x.1, .flt x.2.1, .flt x.2.2]
noncomputable def fracF (h : UInt64) (i : Int) : UInt64 := Float64.sub (Float64.mul h F6) (Float64.ofInt i)

structure Nm3 (G : Gd) : Prop where
  int0 : G.mg "int" = none
  int1 : G.mb "int" = some (.type "int")
  max0 : G.mg "max" = none
  max1 : G.mb "max" = some (.builtin "max")
  sum0 : G.mg "sum" = none
  sum1 : G.mb "sum" = some (.builtin "sum")
  booked : ∀ h, G.kB.inH h → NoneBooked h

section
variable {G : Gd}

theorem hsv_act {n : Nat} (B : Base G) (N3 : Nm3 G) (hf : FnAt G 118 (stmtAt 6)) (h s v : UInt64) (i : Int) (hs0 : eqF s F0 = false) (hi : finI (Float64.mul h F6) = some i) (hin : ¬ Float64.isInf (Float64.ofInt i) = true) :
    Act G (n + 1) (fun vs => call (.ref 118) vs) [.flt h, .flt s, .flt v] (tri (six (i % 6) v (pF s v) (qF s v (fracF h i)) (tF s v (fracF h i)))) := by
  obtain ⟨ob, pm, cd, doc, hk, hd, hc⟩ := hf
  have hs := sizeLine_eq
  refine fn_intro (names := ["h", "s", "v"]) (body := bodyOf (stmtAt 6)) B hk hd hc rfl rfl rfl rfl ?_ rfl (by decide) ?_ ?_ rfl rfl rfl ?_
  · intro vs hv
    match vs, hv with
    | [a, b, c], _ => rfl
  · intro x hx
    simp only [List.mem_cons, List.not_mem_nil, or_false] at hx
    rcases hx with rfl | rfl | rfl <;> exact .inl rfl
  · intro L p hp; cases hp
  · intro A L
    have hs0' : Act G n (fun vs => compareOp .Eq (vs.getD 0 .none) (vs.getD 1 .none)) [.flt s, .flt F0] (.bool false) := by rw [← hs0]; exact eq_ff s F0
    refine ex_cons (sx_if (b := false) (tv_cmp (ev_name rfl) ev_flt hs0') (fun q => by cases q) (fun _ => ex_nil)) ?_
    refine ex_cons (sx_assign (call_t (fv_builtin B rfl N3.int0 N3.int1) (.cons (fun _ _ => rfl) (ev_binop (ev_name rfl) ev_flt (mul_ff _ _)) .nil) (int_fI hi)) (.loc rfl) rfl) ?_
    refine ex_cons (sx_assign (ev_binop (ev_binop (ev_name rfl) ev_flt (mul_ff _ _)) (ev_name rfl) (sub_fi _ _ hin)) (.loc rfl) rfl) ?_
    refine ex_cons (sx_assign (ev_binop (ev_name rfl) (ev_binop ev_flt (ev_name rfl) (sub_ff _ _)) (mul_ff _ _)) (.loc rfl) rfl) ?_
    refine ex_cons (sx_assign (ev_binop (ev_name rfl) (ev_binop ev_flt (ev_binop (ev_name rfl) (ev_name rfl) (mul_ff _ _)) (sub_ff _ _)) (mul_ff _ _)) (.loc rfl) rfl) ?_
    refine ex_cons (sx_assign (ev_binop (ev_name rfl) (ev_binop ev_flt (ev_binop (ev_name rfl) (ev_binop ev_flt (ev_name rfl) (sub_ff _ _)) (mul_ff _ _)) (sub_ff _ _)) (mul_ff _ _)) (.loc rfl) rfl) ?_
    refine ex_cons (sx_assign (ev_binop (ev_name rfl) ev_int (mod_ii _ 6 (by omega))) (.loc rfl) rfl) ?_
    have hr : 0 ≤ i % 6 ∧ i % 6 < 6 := ⟨Int.emod_nonneg _ (by omega), Int.emod_lt_of_pos _ (by omega)⟩
    have h6 : i % 6 = 0 ∨ i % 6 = 1 ∨ i % 6 = 2 ∨ i % 6 = 3 ∨ i % 6 = 4 ∨ i % 6 = 5 := by omega
    generalize i % 6 = j at h6
    rcases h6 with rfl | rfl | rfl | rfl | rfl | rfl
    · refine ex_ret (sx_if (b := (0 : Int) == 0) (tv_cmp (ev_name rfl) ev_int (eq_ii _ _)) (fun _ => ex_ret (sx_ret (ev_tuple (.cons (fun _ _ => rfl) (ev_name rfl) (.cons (fun _ _ => rfl) (ev_name rfl) (.cons (fun _ _ => rfl) (ev_name rfl) .nil))) (by show (3 : Nat) ≤ _; omega)))) (fun q => by cases q))
    · refine ex_cons (sx_if (b := (1 : Int) == 0) (tv_cmp (ev_name rfl) ev_int (eq_ii _ _)) (fun q => by cases q) (fun _ => ex_nil)) ?_
      refine ex_ret (sx_if (b := (1 : Int) == 1) (tv_cmp (ev_name rfl) ev_int (eq_ii _ _)) (fun _ => ex_ret (sx_ret (ev_tuple (.cons (fun _ _ => rfl) (ev_name rfl) (.cons (fun _ _ => rfl) (ev_name rfl) (.cons (fun _ _ => rfl) (ev_name rfl) .nil))) (by show (3 : Nat) ≤ _; omega)))) (fun q => by cases q))
    · refine ex_cons (sx_if (b := (2 : Int) == 0) (tv_cmp (ev_name rfl) ev_int (eq_ii _ _)) (fun q => by cases q) (fun _ => ex_nil)) ?_
      refine ex_cons (sx_if (b := (2 : Int) == 1) (tv_cmp (ev_name rfl) ev_int (eq_ii _ _)) (fun q => by cases q) (fun _ => ex_nil)) ?_
      refine ex_ret (sx_if (b := (2 : Int) == 2) (tv_cmp (ev_name rfl) ev_int (eq_ii _ _)) (fun _ => ex_ret (sx_ret (ev_tuple (.cons (fun _ _ => rfl) (ev_name rfl) (.cons (fun _ _ => rfl) (ev_name rfl) (.cons (fun _ _ => rfl) (ev_name rfl) .nil))) (by show (3 : Nat) ≤ _; omega)))) (fun q => by cases q))
    · refine ex_cons (sx_if (b := (3 : Int) == 0) (tv_cmp (ev_name rfl) ev_int (eq_ii _ _)) (fun q => by cases q) (fun _ => ex_nil)) ?_
      refine ex_cons (sx_if (b := (3 : Int) == 1) (tv_cmp (ev_name rfl) ev_int (eq_ii _ _)) (fun q => by cases q) (fun _ => ex_nil)) ?_
      refine ex_cons (sx_if (b := (3 : Int) == 2) (tv_cmp (ev_name rfl) ev_int (eq_ii _ _)) (fun q => by cases q) (fun _ => ex_nil)) ?_
      refine ex_ret (sx_if (b := (3 : Int) == 3) (tv_cmp (ev_name rfl) ev_int (eq_ii _ _)) (fun _ => ex_ret (sx_ret (ev_tuple (.cons (fun _ _ => rfl) (ev_name rfl) (.cons (fun _ _ => rfl) (ev_name rfl) (.cons (fun _ _ => rfl) (ev_name rfl) .nil))) (by show (3 : Nat) ≤ _; omega)))) (fun q => by cases q))
    · refine ex_cons (sx_if (b := (4 : Int) == 0) (tv_cmp (ev_name rfl) ev_int (eq_ii _ _)) (fun q => by cases q) (fun _ => ex_nil)) ?_
      refine ex_cons (sx_if (b := (4 : Int) == 1) (tv_cmp (ev_name rfl) ev_int (eq_ii _ _)) (fun q => by cases q) (fun _ => ex_nil)) ?_
      refine ex_cons (sx_if (b := (4 : Int) == 2) (tv_cmp (ev_name rfl) ev_int (eq_ii _ _)) (fun q => by cases q) (fun _ => ex_nil)) ?_
      refine ex_cons (sx_if (b := (4 : Int) == 3) (tv_cmp (ev_name rfl) ev_int (eq_ii _ _)) (fun q => by cases q) (fun _ => ex_nil)) ?_
      refine ex_ret (sx_if (b := (4 : Int) == 4) (tv_cmp (ev_name rfl) ev_int (eq_ii _ _)) (fun _ => ex_ret (sx_ret (ev_tuple (.cons (fun _ _ => rfl) (ev_name rfl) (.cons (fun _ _ => rfl) (ev_name rfl) (.cons (fun _ _ => rfl) (ev_name rfl) .nil))) (by show (3 : Nat) ≤ _; omega)))) (fun q => by cases q))
    · refine ex_cons (sx_if (b := (5 : Int) == 0) (tv_cmp (ev_name rfl) ev_int (eq_ii _ _)) (fun q => by cases q) (fun _ => ex_nil)) ?_
      refine ex_cons (sx_if (b := (5 : Int) == 1) (tv_cmp (ev_name rfl) ev_int (eq_ii _ _)) (fun q => by cases q) (fun _ => ex_nil)) ?_
      refine ex_cons (sx_if (b := (5 : Int) == 2) (tv_cmp (ev_name rfl) ev_int (eq_ii _ _)) (fun q => by cases q) (fun _ => ex_nil)) ?_
      refine ex_cons (sx_if (b := (5 : Int) == 3) (tv_cmp (ev_name rfl) ev_int (eq_ii _ _)) (fun q => by cases q) (fun _ => ex_nil)) ?_
      refine ex_cons (sx_if (b := (5 : Int) == 4) (tv_cmp (ev_name rfl) ev_int (eq_ii _ _)) (fun q => by cases q) (fun _ => ex_nil)) ?_
      refine ex_ret (sx_if (b := (5 : Int) == 5) (tv_cmp (ev_name rfl) ev_int (eq_ii _ _)) (fun _ => ex_ret (sx_ret (ev_tuple (.cons (fun _ _ => rfl) (ev_name rfl) (.cons (fun _ _ => rfl) (ev_name rfl) (.cons (fun _ _ => rfl) (ev_name rfl) .nil))) (by show (3 : Nat) ≤ _; omega)))) (fun q => by cases q))
end
end Mine

namespace Mine
open PySem PySem.Calls PySem.Spec PyProof.Rows
set_option maxRecDepth 100000
set_option linter.unusedVariables false
set_option linter.unusedSimpArgs false

noncomputable def mxF (r g b : UInt64) : UInt64 := max2F (max2F r g) b
noncomputable def mnF (r g b : UInt64) : UInt64 := min2F (min2F r g) b
noncomputable def smF (r g b : UInt64) : UInt64 := Float64.add (mxF r g b) (mnF r g b)
noncomputable def rgF (r g b : UInt64) : UInt64 := Float64.sub (mxF r g b) (mnF r g b)
noncomputable def liF (r g b : UInt64) : UInt64 := Float64.div (smF r g b) F2
noncomputable def bdF (r g b : UInt64) : UInt64 := if leF (liF r g b) FH then smF r g b else Float64.sub (Float64.sub F2 (mxF r g b)) (mnF r g b)
noncomputable def saF (r g b : UInt64) : UInt64 := Float64.div (rgF r g b) (bdF r g b)
noncomputable def rel (r g b x : UInt64) : UInt64 := Float64.div (Float64.sub (mxF r g b) x) (rgF r g b)
noncomputable def h0F (r g b : UInt64) : UInt64 :=
  if eqF r (mxF r g b) then Float64.sub (rel r g b b) (rel r g b g) else if eqF g (mxF r g b) then Float64.sub (Float64.add F2 (rel r g b r)) (rel r g b b) else Float64.sub (Float64.add F4 (rel r g b g)) (rel r g b r)
noncomputable def huF (r g b : UInt64) : UInt64 := (Float64.divmod (Float64.div (h0F r g b) F6) F1).snd

section
variable {G : Gd}
theorem hls_act {n : Nat} (B : Base G) (N : Nm G) (N3 : Nm3 G) (hf : FnAt G 111 (stmtAt 5)) (r g b : UInt64) (h1 : eqF (mnF r g b) (mxF r g b) = false) (h2 : ¬ Float64.isZero (bdF r g b) = true) (h3 : ¬ Float64.isZero (rgF r g b) = true) :
    Act G (n + 1) (fun vs => call (.ref 111) vs) [.flt r, .flt g, .flt b] (tri (huF r g b, liF r g b, saF r g b)) := by
  obtain ⟨ob, pm, cd, doc, hk, hd, hc⟩ := hf
  have hs := sizeLine_eq
  refine fn_intro (names := ["r", "g", "b"]) (body := bodyOf (stmtAt 5)) B hk hd hc rfl rfl rfl rfl ?_ rfl (by decide) ?_ ?_ rfl rfl rfl ?_
  · intro vs hv
    match vs, hv with
    | [a, b, c], _ => rfl
  · intro x hx
    simp only [List.mem_cons, List.not_mem_nil, or_false] at hx
    rcases hx with rfl | rfl | rfl <;> exact .inl rfl
  · intro L p hp; cases hp
  · intro A L
    refine ex_cons (sx_assign (d := .flt (mxF r g b)) (call_b (fv_builtin B rfl N3.max0 N3.max1) (.cons (fun _ _ => rfl) (ev_name rfl) (.cons (fun _ _ => rfl) (ev_name rfl) (.cons (fun _ _ => rfl) (ev_name rfl) .nil))) (max3_f r g b)) (.loc rfl) rfl) ?_
    refine ex_cons (sx_assign (d := .flt (mnF r g b)) (call_b (fv_builtin B rfl N.min0 N.min1) (.cons (fun _ _ => rfl) (ev_name rfl) (.cons (fun _ _ => rfl) (ev_name rfl) (.cons (fun _ _ => rfl) (ev_name rfl) .nil))) (min3_f r g b)) (.loc rfl) rfl) ?_
    refine ex_cons (sx_assign (d := .flt (smF r g b)) (ev_binop (ev_name rfl) (ev_name rfl) (add_ff _ _)) (.loc rfl) rfl) ?_
    refine ex_cons (sx_assign (d := .flt (rgF r g b)) (ev_binop (ev_name rfl) (ev_name rfl) (sub_ff _ _)) (.loc rfl) rfl) ?_
    refine ex_cons (sx_assign (d := .flt (liF r g b)) (ev_binop (ev_name rfl) ev_flt (div_ff _ _ (by decide +kernel))) (.loc rfl) rfl) ?_
    have a1 : Act G n (fun vs => compareOp .Eq (vs.getD 0 .none) (vs.getD 1 .none)) [.flt (mnF r g b), .flt (mxF r g b)] (.bool false) := by rw [← h1]; exact eq_ff _ _
    refine ex_cons (sx_if (b := false) (tv_cmp (ev_name rfl) (ev_name rfl) a1) (fun q => by cases q) (fun _ => ex_nil)) ?_
    refine ex_cons (σ' := [("s", .dat (.flt (saF r g b))), ("l", .dat (.flt (liF r g b))), ("r", .dat (.flt r)), ("g", .dat (.flt g)), ("b", .dat (.flt b)), ("maxc", .dat (.flt (mxF r g b))), ("rangec", .dat (.flt (rgF r g b)))]) ?_ ?_
    · unfold saF
      cases hle : leF (liF r g b) FH with
      | true =>
        have e : bdF r g b = smF r g b := by unfold bdF; rw [hle]; rfl
        rw [e] at h2 ⊢
        have a2 : Act G n (fun vs => compareOp .LtE (vs.getD 0 .none) (vs.getD 1 .none)) [.flt (liF r g b), .flt FH] (.bool true) := by rw [← hle]; exact le_ff _ _
        exact sx_if (b := true) (tv_cmp (ev_name rfl) ev_flt a2) (fun _ => Ex.post (ex_cons (sx_assign (ev_binop (ev_name rfl) (ev_name rfl) (div_ff _ _ h2)) (.loc rfl) rfl) ex_nil) (.cons rfl (.cons rfl (.cons rfl (.cons rfl (.cons rfl (.cons rfl (.cons rfl .nil)))))))) (fun q => by cases q)
      | false =>
        have e : bdF r g b = Float64.sub (Float64.sub F2 (mxF r g b)) (mnF r g b) := by unfold bdF; rw [hle]; rfl
        rw [e] at h2 ⊢
        have a2 : Act G n (fun vs => compareOp .LtE (vs.getD 0 .none) (vs.getD 1 .none)) [.flt (liF r g b), .flt FH] (.bool false) := by rw [← hle]; exact le_ff _ _
        exact sx_if (b := false) (tv_cmp (ev_name rfl) ev_flt a2) (fun q => by cases q) (fun _ => Ex.post (ex_cons (sx_assign (ev_binop (ev_name rfl) (ev_binop (ev_binop ev_flt (ev_name rfl) (sub_ff _ _)) (ev_name rfl) (sub_ff _ _)) (div_ff _ _ h2)) (.loc rfl) rfl) ex_nil) (.cons rfl (.cons rfl (.cons rfl (.cons rfl (.cons rfl (.cons rfl (.cons rfl .nil))))))))
    · refine ex_cons (sx_assign (d := .flt (rel r g b r)) (ev_binop (ev_binop (ev_name rfl) (ev_name rfl) (sub_ff _ _)) (ev_name rfl) (div_ff _ _ h3)) (.loc rfl) rfl) ?_
      refine ex_cons (sx_assign (d := .flt (rel r g b g)) (ev_binop (ev_binop (ev_name rfl) (ev_name rfl) (sub_ff _ _)) (ev_name rfl) (div_ff _ _ h3)) (.loc rfl) rfl) ?_
      refine ex_cons (sx_assign (d := .flt (rel r g b b)) (ev_binop (ev_binop (ev_name rfl) (ev_name rfl) (sub_ff _ _)) (ev_name rfl) (div_ff _ _ h3)) (.loc rfl) rfl) ?_
      refine ex_cons (σ' := [("s", .dat (.flt (saF r g b))), ("l", .dat (.flt (liF r g b))), ("h", .dat (.flt (h0F r g b)))]) ?_ ?_
      · unfold h0F
        cases hr : eqF r (mxF r g b) with
        | true =>
          have a3 : Act G n (fun vs => compareOp .Eq (vs.getD 0 .none) (vs.getD 1 .none)) [.flt r, .flt (mxF r g b)] (.bool true) := by rw [← hr]; exact eq_ff _ _
          exact sx_if (b := true) (tv_cmp (ev_name rfl) (ev_name rfl) a3) (fun _ => Ex.post (ex_cons (sx_assign (ev_binop (ev_name rfl) (ev_name rfl) (sub_ff _ _)) (.loc rfl) rfl) ex_nil) (.cons rfl (.cons rfl (.cons rfl .nil)))) (fun q => by cases q)
        | false =>
          have a3 : Act G n (fun vs => compareOp .Eq (vs.getD 0 .none) (vs.getD 1 .none)) [.flt r, .flt (mxF r g b)] (.bool false) := by rw [← hr]; exact eq_ff _ _
          refine sx_if (b := false) (tv_cmp (ev_name rfl) (ev_name rfl) a3) (fun q => by cases q) (fun _ => ex_cons ?_ ex_nil)
          cases hg : eqF g (mxF r g b) with
          | true =>
            have a4 : Act G n (fun vs => compareOp .Eq (vs.getD 0 .none) (vs.getD 1 .none)) [.flt g, .flt (mxF r g b)] (.bool true) := by rw [← hg]; exact eq_ff _ _
            exact sx_if (b := true) (tv_cmp (ev_name rfl) (ev_name rfl) a4) (fun _ => Ex.post (ex_cons (sx_assign (ev_binop (ev_binop ev_flt (ev_name rfl) (add_ff _ _)) (ev_name rfl) (sub_ff _ _)) (.loc rfl) rfl) ex_nil) (.cons rfl (.cons rfl (.cons rfl .nil)))) (fun q => by cases q)
          | false =>
            have a4 : Act G n (fun vs => compareOp .Eq (vs.getD 0 .none) (vs.getD 1 .none)) [.flt g, .flt (mxF r g b)] (.bool false) := by rw [← hg]; exact eq_ff _ _
            exact sx_if (b := false) (tv_cmp (ev_name rfl) (ev_name rfl) a4) (fun q => by cases q) (fun _ => Ex.post (ex_cons (sx_assign (ev_binop (ev_binop ev_flt (ev_name rfl) (add_ff _ _)) (ev_name rfl) (sub_ff _ _)) (.loc rfl) rfl) ex_nil) (.cons rfl (.cons rfl (.cons rfl .nil))))
      · refine ex_cons (sx_assign (d := .flt (huF r g b)) (ev_binop (ev_binop (ev_name rfl) ev_flt (div_ff _ _ (by decide +kernel))) ev_flt (mod_ff _ _ (by decide +kernel))) (.loc rfl) rfl) ?_
        exact ex_ret (sx_ret (ev_tuple (.cons (fun _ _ => rfl) (ev_name rfl) (.cons (fun _ _ => rfl) (ev_name rfl) (.cons (fun _ _ => rfl) (ev_name rfl) .nil))) (by show (3 : Nat) ≤ _; omega)))
end
end Mine

namespace Mine
open PySem PySem.Calls PySem.Spec PyProof.Rows
set_option maxRecDepth 100000

noncomputable def fz (x : UInt64) (f : UInt64 → Bool) : Bool := Nat.rec (motive := fun _ => Bool) (f (Nat.toUInt64 0)) (fun k _ => f (Nat.toUInt64 (Nat.succ k))) x.toNat
theorem fz_eq (x : UInt64) (f : UInt64 → Bool) : fz x f = f x := by
  have : ∀ n : Nat, (Nat.rec (motive := fun _ => Bool) (f (Nat.toUInt64 0)) (fun k _ => f (Nat.toUInt64 (Nat.succ k))) n : Bool) = f n.toUInt64 := fun n => by cases n <;> rfl
  unfold fz
  rw [this]
  simp

noncomputable def toldOk (r g b h l s : UInt64) : Bool :=
  (eqF (mnF r g b) (mxF r g b) == false) && !Float64.isZero (bdF r g b) && !Float64.isZero (rgF r g b) && (huF r g b == h) && (liF r g b == l) && (saF r g b == s) && eqF h h && eqF l l && eqF s s
noncomputable def toldChk (r g b h l s : UInt64) : Bool :=
  fz r fun r => fz g fun g => fz b fun b => fz h fun h => fz l fun l => fz s fun s =>
  fz (mxF r g b) fun mx => fz (mnF r g b) fun mn => fz (Float64.sub mx mn) fun rg => fz (Float64.add mx mn) fun sm => fz (Float64.div sm F2) fun li =>
  fz (if leF li FH then sm else Float64.sub (Float64.sub F2 mx) mn) fun bd => fz (Float64.div rg bd) fun sa =>
  fz (Float64.div (Float64.sub mx r) rg) fun rc => fz (Float64.div (Float64.sub mx g) rg) fun gc => fz (Float64.div (Float64.sub mx b) rg) fun bc =>
  fz (Float64.div (if eqF r mx then Float64.sub bc gc else if eqF g mx then Float64.sub (Float64.add F2 rc) bc else Float64.sub (Float64.add F4 gc) rc) F6) fun hq =>
  (eqF mn mx == false) && !Float64.isZero bd && !Float64.isZero rg && ((Float64.divmod hq F1).snd == h) && (li == l) && (sa == s) && eqF h h && eqF l l && eqF s s
theorem toldChk_eq (r g b h l s : UInt64) : toldChk r g b h l s = toldOk r g b h l s := by
  unfold toldChk
  simp only [fz_eq]
  rfl

noncomputable def shareN (j : Nat) : Int := 1 + 357913941 * j
noncomputable def valueN (k : Nat) : Int := 1 + 349525 * k
noncomputable def dueN (j k : Nat) : Int := valueN k * (2 ^ 31 - shareN j)
noncomputable def satN (j k : Nat) : UInt64 := divII (shareN j * valueN k) (min (dueN j k) (2 ^ 51 - dueN j k))
noncomputable def rgbOf (i : Int) (f s v : UInt64) : UInt64 × UInt64 × UInt64 := six i v (pF s v) (qF s v f) (tF s v f)
noncomputable def rgbN (u j k : Nat) : UInt64 × UInt64 × UInt64 := rgbOf (u / 8 : Nat) (divII (u % 8 : Nat) 8) (divII (shareN j) (2 ^ 30)) (divII (valueN k) (2 ^ 20))
noncomputable def colourOk (u j k : Nat) : Bool :=
  toldOk (rgbN u j k).1 (rgbN u j k).2.1 (rgbN u j k).2.2 (divII u 48) (divII (dueN j k) (2 ^ 51)) (satN j k)
noncomputable def colourChk (u j k : Nat) : Bool :=
  fz (divII (u % 8 : Nat) 8) fun f => fz (divII (shareN j) (2 ^ 30)) fun s => fz (divII (valueN k) (2 ^ 20)) fun v =>
  fz (pF s v) fun p => fz (qF s v f) fun q => fz (tF s v f) fun t =>
  toldChk (six (u / 8 : Nat) v p q t).1 (six (u / 8 : Nat) v p q t).2.1 (six (u / 8 : Nat) v p q t).2.2 (divII u 48) (divII (dueN j k) (2 ^ 51)) (satN j k)
theorem colourChk_eq (u j k : Nat) : colourChk u j k = colourOk u j k := by
  unfold colourChk
  simp only [fz_eq, toldChk_eq]
  rfl
noncomputable def colourRow (u : Nat) : Bool := (List.range 4).all fun j => (List.range 4).all fun k => colourChk u j k
end Mine

namespace Mine
open PySem PySem.Calls PySem.Spec PyProof.Rows
set_option maxRecDepth 100000
set_option linter.unusedVariables false
set_option linter.unusedSimpArgs false

theorem same_flt {M : Model} {A : Around} {E : Value → Shared → Prop} {s : Shared} {y z : UInt64} {u v : Tok} {Q : Bool → Shared → Prop}
    (hu : 0 < u) (hv : 0 < v) (hb : NoneBooked s.heap) (hq : ∀ b, Q b s) : wpAny M A (isSame (.float y u) (.float z v)) Q E s := by
  show wpAny M A (isSame.created (y == z && !Float64.isNaN y) u v) Q E s
  unfold isSame.created
  refine wpAny_ite ?_
  split
  · rename_i h
    have h1 : (u == 0) = false := beq_eq_false_iff_ne.mpr (Nat.pos_iff_ne_zero.mp hu)
    have h2 : (v == 0) = false := beq_eq_false_iff_ne.mpr (Nat.pos_iff_ne_zero.mp hv)
    rw [h1, h2] at h; cases h
  refine wpAny_ite ?_
  split
  · exact wpAny_pure (hq _)
  refine wpAny_ite ?_
  split
  · exact wpAny_pure (hq _)
  refine wpAny_bind (wpAny_sharingNotTold_none hb ?_)
  simp only [Bool.false_eq_true, if_false]
  refine wpAny_bind (wpAny_sharingNotTold_none hb ?_)
  simp only [Bool.false_eq_true, if_false]
  exact wpAny_bind (wpAny_rule (wpAny_bind (wpAny_askSetting (wpAny_pure (hq _)))))

theorem eqAt_flt {A : Around} {s : Shared} {x : UInt64} {t u : Tok} (ht : 0 < t) (hu : 0 < u) (hb : NoneBooked s.heap) (hx : eqF x x = true) : SeqAt.EqAt A s (.float x t) (.float x u) true := fun prog w E Q h => by
  unfold eqBool
  refine wpAny_holding ?_
  refine wpAny_ite_split (fun hab => ?_) (fun hab => ?_)
  · exact wpAny_bind (wpAny_rule (wpAny_pure h))
  · refine wpAny_bind (same_flt ht hu hb fun b => ?_)
    cases b with
    | true => exact wpAny_pure h
    | false =>
      simp only [Bool.false_eq_true, if_false]
      refine wpAny_bind (AutoFloatOps.eq_0 ?_)
      have : (Float64.cmp x x == some Ordering.eq) = true := hx
      rw [this]
      exact wpAny_truthy_bool h
theorem eqAt_one {A : Around} {s : Shared} {t u : Tok} : SeqAt.EqAt A s (.float F1 t) (.int 1 u) true := fun prog w E Q h => by
  unfold eqBool
  refine wpAny_holding ?_
  refine wpAny_ite_split (fun hab => ?_) (fun hab => ?_)
  · exact wpAny_bind (wpAny_rule (wpAny_pure h))
  · refine wpAny_bind (eq_fi ?_)
    have : (Float64.cmpInt F1 1 == some Ordering.eq) = true := by decide +kernel
    rw [this]
    exact wpAny_truthy_bool h

section
variable {G : Gd} {n : Nat}

theorem isTup_of {k : Part} {s : Shared} (ok : Ok G k s) {v : Value} {ds : List D} (r : Rd k v (.tup ds)) : ∃ a vs, v = .ref a ∧ s.heap.IsTuple a vs.toArray ∧ Rds k vs ds := by
  cases r with
  | @tup a vs m _ h r => exact ⟨a, vs, rfl, ⟨_, ok.sub _ _ h, rfl, m, rfl⟩, r⟩

theorem ne_tri (N3 : Nm3 G) (x : UInt64 × UInt64 × UInt64) (h1 : eqF x.1 x.1 = true) (h2 : eqF x.2.1 x.2.1 = true) (h3 : eqF x.2.2 x.2.2 = true) :
    Act G n (fun vs => compareOp .NotEq (vs.getD 0 .none) (vs.getD 1 .none)) [tri x, tri x] (.bool false) := act2 fun A k s v u Q E rm ok r1 r2 hq => by
  obtain ⟨a, vs, rfl, ta, ra⟩ := isTup_of ok r1
  obtain ⟨b, us, rfl, tb, rb⟩ := isTup_of ok r2
  have nb := N3.booked _ ok.baseIn
  cases ra with
  | cons p1 ra => cases ra with
  | cons p2 ra => cases ra with
  | cons p3 ra =>
  cases ra
  cases rb with
  | cons q1 rb => cases rb with
  | cons q2 rb => cases rb with
  | cons q3 rb =>
  cases rb
  cases p1 with | flt _ _ e1 => cases p2 with | flt _ _ e2 => cases p3 with | flt _ _ e3 =>
  cases q1 with | flt _ _ f1 => cases q2 with | flt _ _ f2 => cases q3 with | flt _ _ f3 =>
  have := SeqAt.RcNeAt.tuples (A := A) (s := s) (e := fun _ => true) ta tb rm.units (fun j h1' h2' => by
    match j, h1' with
    | 0, _ => exact eqAt_flt e1 f1 nb h1
    | 1, _ => exact eqAt_flt e2 f2 nb h2
    | 2, _ => exact eqAt_flt e3 f3 nb h3) G.prog G.w E Q
  exact this (hq _ s.toks (.bool _))

theorem ne_duo (N3 : Nm3 G) (x : UInt64) (h1 : eqF x x = true) :
    Act G n (fun vs => compareOp .NotEq (vs.getD 0 .none) (vs.getD 1 .none)) [.tup [.flt x, .flt F1], .tup [.flt x, .int 1]] (.bool false) := act2 fun A k s v u Q E rm ok r1 r2 hq => by
  obtain ⟨a, vs, rfl, ta, ra⟩ := isTup_of ok r1
  obtain ⟨b, us, rfl, tb, rb⟩ := isTup_of ok r2
  have nb := N3.booked _ ok.baseIn
  cases ra with
  | cons p1 ra => cases ra with
  | cons p2 ra =>
  cases ra
  cases rb with
  | cons q1 rb => cases rb with
  | cons q2 rb =>
  cases rb
  cases p1 with | flt _ _ e1 => cases p2 with | flt _ _ e2 =>
  cases q1 with | flt _ _ f1 => cases q2 with | int _ _ =>
  have := SeqAt.RcNeAt.tuples (A := A) (s := s) (e := fun _ => true) ta tb rm.units (fun j h1' h2' => by
    match j, h1' with
    | 0, _ => exact eqAt_flt e1 f1 nb h1
    | 1, _ => exact eqAt_one) G.prog G.w E Q
  exact this (hq _ s.toks (.bool _))

theorem preSum_list (l : List Int) : ∀ n, n ≤ l.length → preSum (fun i => l.getD i 0) n = (l.take n).sum
  | 0, _ => by simp [preSum]
  | n + 1, h => by
    have hn : n < l.length := h
    have e : l.take (n + 1) = l.take n ++ [l[n]] := by rw [List.take_add_one, List.getElem?_eq_getElem hn]; rfl
    have e2 : l.getD n 0 = l[n] := by rw [List.getD_eq_getElem?_getD, List.getElem?_eq_getElem hn]; rfl
    rw [preSum, preSum_list l n (by omega), e, List.sum_append, e2]
    simp

theorem sum_is (l : List Int) : Act G n (fun vs => call (.builtin "sum") vs) [.list (l.map .int)] (.int l.sum) := fun A k s vs Q E rm ok r hq => by
  cases r with
  | cons h1 r1 =>
  cases r1
  obtain ⟨a, vs, m, rfl, hl, hr⟩ := isL_of ok h1
  have hlen : vs.length = l.length := by rw [hr.length, List.length_map]
  refine wpAny_with_toks (n := 1) ok.tk (call_sum_walkG ?_)
  refine wpAny_pyIter_list hl.isList ?_
  have hlt := Heap.lt_size hl
  refine ⟨_, _, _, _, _, _, fun i => l.getD i 0, rfl, Walks.list (prog := G.prog) (w := G.w) (A := A.in1) rm.hh s.heap.objs.size a (Nat.ne_of_lt hlt) vs.toArray, ⟨⟨_, Heap.get?_push_size _ rfl, rfl, rfl⟩, hl.isList.push _⟩, ?_, ?_, ?_⟩
  · intro b hb
    rw [Heap.size_push]
    rcases List.mem_cons.mp hb with rfl | hb
    · exact Nat.lt_succ_self _
    · rcases List.mem_cons.mp hb with rfl | hb
      · exact Nat.lt_succ_of_lt hlt
      · cases hb
  · intro i v hv
    obtain ⟨d, hd, hrd⟩ := hr.get (show vs[i]? = some v by simpa using hv)
    rw [List.getElem?_map] at hd
    obtain ⟨x, hx, rfl⟩ := Option.map_eq_some_iff.mp hd
    cases hrd with
    | int _ t => exact ⟨t, by show Value.int x t = Value.int (l.getD i 0) t; rw [List.getD_eq_getElem?_getD, hx]; rfl⟩
  · intro h' tk t' hk ht
    rw [List.size_toArray, hlen, preSum_list l _ (Nat.le_refl _), List.take_length]
    exact hq k _ _ (Gr.keeps (t := tk) ok (h' := h') (fun b o e => hk b o (fun hm => by
      simp only [List.mem_cons, List.not_mem_nil, or_false] at hm
      exact Nat.ne_of_lt (Heap.lt_size e) hm) (Heap.get?_push_of_some _ e)) V ht) (.int _ _)
end
end Mine

namespace Mine
open PySem PySem.Calls PySem.Spec PyProof.Rows
set_option maxRecDepth 100000
set_option linter.unusedVariables false
set_option linter.unusedSimpArgs false

structure Cols : Prop where
  colour : ∀ u j k, u < 48 → j < 4 → k < 4 → colourOk u j k = true
  hue : ∀ T, T < 192 → finI (Float64.mul (divII (T : Nat) 48) F6) = some ((T / 8 : Nat) : Int) ∧ fracF (divII (T : Nat) 48) ((T / 8 : Nat) : Int) = divII (T % 8 : Nat) 8 ∧ Float64.isInf (Float64.ofInt ((T / 8 : Nat) : Int)) = false ∧ Float64.isInf (divII (T : Nat) 48) = false
  spot : ∀ u, u < 48 → finI (Float64.mul (Float64.ofInt 4) (divII (u : Nat) 48)) = some ((u / 12 : Nat) : Int)
  share : ∀ j, j < 4 → Float64.isInf (divII (shareN j) (2 ^ 30)) = false ∧ eqF (divII (shareN j) (2 ^ 30)) F0 = false
  value : ∀ k, k < 4 → Float64.isInf (divII (valueN k) (2 ^ 20)) = false
  due : ∀ j k, j < 4 → k < 4 → Float64.isInf (divII (dueN j k) (2 ^ 51)) = false ∧ Float64.isInf (satN j k) = false ∧ (min (dueN j k) (2 ^ 51 - dueN j k) == 0) = false
  light : ∀ t, t < 6 → Float64.isInf (divII (t : Nat) 6) = false ∧ finI (Float64.mul (divII (t : Nat) 6) F6) = some ((t : Nat) : Int) ∧
    ∃ l, toldOk (six (((t : Nat) : Int) % 6) (divII 1 1) (pF (divII 1 (2 ^ 53)) (divII 1 1)) (qF (divII 1 (2 ^ 53)) (divII 1 1) (fracF (divII (t : Nat) 6) (t : Nat))) (tF (divII 1 (2 ^ 53)) (divII 1 1) (fracF (divII (t : Nat) 6) (t : Nat)))).1
      (six (((t : Nat) : Int) % 6) (divII 1 1) (pF (divII 1 (2 ^ 53)) (divII 1 1)) (qF (divII 1 (2 ^ 53)) (divII 1 1) (fracF (divII (t : Nat) 6) (t : Nat))) (tF (divII 1 (2 ^ 53)) (divII 1 1) (fracF (divII (t : Nat) 6) (t : Nat)))).2.1
      (six (((t : Nat) : Int) % 6) (divII 1 1) (pF (divII 1 (2 ^ 53)) (divII 1 1)) (qF (divII 1 (2 ^ 53)) (divII 1 1) (fracF (divII (t : Nat) 6) (t : Nat))) (tF (divII 1 (2 ^ 53)) (divII 1 1) (fracF (divII (t : Nat) 6) (t : Nat)))).2.2
      (divII (t : Nat) 6) l F1 = true
  lightC : Float64.isInf (divII 1 (2 ^ 53)) = false ∧ Float64.isInf (divII 1 1) = false ∧ eqF (divII 1 (2 ^ 53)) F0 = false ∧ ∀ t, t < 6 → Float64.isInf (Float64.ofInt ((t : Nat) : Int)) = false

theorem toldOk_parts {r g b h l s : UInt64} (e : toldOk r g b h l s = true) : eqF (mnF r g b) (mxF r g b) = false ∧ ¬ Float64.isZero (bdF r g b) = true ∧ ¬ Float64.isZero (rgF r g b) = true ∧ huF r g b = h ∧ liF r g b = l ∧ saF r g b = s ∧ eqF h h = true ∧ eqF l l = true ∧ eqF s s = true := by
  unfold toldOk at e
  simp only [Bool.and_eq_true, beq_iff_eq, Bool.not_eq_true'] at e
  obtain ⟨⟨⟨⟨⟨⟨⟨⟨a, b⟩, c⟩, d⟩, f⟩, g⟩, h⟩, i⟩, j⟩ := e
  exact ⟨a, by rw [b]; decide, by rw [c]; decide, d, f, g, h, i, j⟩

noncomputable def step (p x : Nat) : Nat := (p + 1 + x % 3) % 4
noncomputable def walkStep (a : List Nat × Nat) (x : Nat) : List Nat × Nat := (a.1 ++ [97 + step a.2 x], step a.2 x)
noncomputable def walkOf (l : List Nat) : List Nat := (l.foldl walkStep ([97], 0)).1

section
variable {G : Gd} {n : Nat}
theorem pow2 (e : Nat) (he : e ≤ 60) (h0 : e ≠ 0) : Act G n (fun vs => binaryOp .Pow (vs.getD 0 .none) (vs.getD 1 .none)) [.int 2, .int e] (.int (2 ^ e)) := by
  have := pow_ii (G := G) (n := n) 2 e (by omega) (by simpa using h0) (by decide) (by decide) (by
    have : Builtin.Int.intBits 2 = 2 := by decide +kernel
    rw [this]
    unfold Builtin.Int.intTooBig
    rw [bitsLine_eq]
    simp
    omega)
  simpa using this
theorem p30 : Act G n (fun vs => binaryOp .Pow (vs.getD 0 .none) (vs.getD 1 .none)) [.int 2, .int 30] (.int 1073741824) := pow2 30 (by omega) (by omega)
theorem p20 : Act G n (fun vs => binaryOp .Pow (vs.getD 0 .none) (vs.getD 1 .none)) [.int 2, .int 20] (.int 1048576) := pow2 20 (by omega) (by omega)
theorem p31 : Act G n (fun vs => binaryOp .Pow (vs.getD 0 .none) (vs.getD 1 .none)) [.int 2, .int 31] (.int 2147483648) := pow2 31 (by omega) (by omega)
theorem p51 : Act G n (fun vs => binaryOp .Pow (vs.getD 0 .none) (vs.getD 1 .none)) [.int 2, .int 51] (.int 2251799813685248) := pow2 51 (by omega) (by omega)
theorem p53 : Act G n (fun vs => binaryOp .Pow (vs.getD 0 .none) (vs.getD 1 .none)) [.int 2, .int 53] (.int 9007199254740992) := pow2 53 (by omega) (by omega)
theorem fdivS (a : Int) (b : Int) (hb : 0 < b) (h : b < 1000) : Act G n (fun vs => binaryOp .FloorDiv (vs.getD 0 .none) (vs.getD 1 .none)) [.int a, .int b] (.int (a / b)) := by
  refine fdiv_ii a b hb ?_
  unfold Builtin.divisionGoesByPylong
  have h1 : b.natAbs < 1024 := by omega
  have h2 : b.natAbs.log2 < 10 := (Nat.log2_lt (by omega)).mpr h1
  simp
  intro h3
  split at h3
  · omega
  · omega
theorem q30 : Act G n (fun vs => binaryOp .FloorDiv (vs.getD 0 .none) (vs.getD 1 .none)) [.int 1073741824, .int 3] (.int 357913941) := fdivS 1073741824 3 (by omega) (by omega)
theorem q20 : Act G n (fun vs => binaryOp .FloorDiv (vs.getD 0 .none) (vs.getD 1 .none)) [.int 1048576, .int 3] (.int 349525) := fdivS 1048576 3 (by omega) (by omega)
theorem mulS (a b : Int) (h0 : -1000 ≤ a) (h1 : a < 2 ^ 62) : Act G n (fun vs => binaryOp .Mult (vs.getD 0 .none) (vs.getD 1 .none)) [.int a, .int b] (.int (a * b)) :=
  mul_ii a b (IntMulOk.of_left (intBits_le_64 (by omega) (by omega)))

theorem shE (x : Nat) : (1 : Int) + 357913941 * ((x : Int) / 9 % 4) = shareN (x / 9 % 4) := by unfold shareN; omega
theorem vaE (x : Nat) : (1 : Int) + 349525 * ((x : Int) / 36 % 4) = valueN (x / 36 % 4) := by unfold valueN; omega
noncomputable def turnN (p x t : Nat) : Nat := 12 * (p + 1 + x % 3) + t % 12
theorem tuE (p x t : Nat) : (12 : Int) * ((p : Int) + 1 + (x : Int) % 3) + (t : Int) % 12 = (turnN p x t : Nat) := by unfold turnN; omega

noncomputable def loopSto (t : Nat) (a : List Nat × Nat) : Sto := [("walk", .dat (.str (S a.1))), ("place", .dat (.int (a.2 : Nat))), ("total", .dat (.int (t : Nat)))]

theorem shareN_r {j : Nat} (h : j < 4) : 1 ≤ shareN j ∧ shareN j ≤ 1073741824 := by unfold shareN; omega
theorem valueN_r {k : Nat} (h : k < 4) : 1 ≤ valueN k ∧ valueN k ≤ 1048576 := by unfold valueN; omega

set_option maxHeartbeats 4000000 in
theorem walk_step {A : Around} {n : Nat} {pm cd doc : Value} {L : Addr} (B : Base G) (N : Nm G) (N3 : Nm3 G) (C : Cols) (hh : FnAt G 118 (stmtAt 6)) (hhg : G.mg "hsv_to_rgb" = some (.ref 118)) (hl : FnAt G 111 (stmtAt 5)) (hlg : G.mg "rgb_to_hls" = some (.ref 111))
    (t x p : Nat) (w : List Nat) (hp : p < 4) (hw : w.length ≤ 60) :
    Ex G (cx A (n + 1) (defOf (stmtAt 11) pm cd doc) L 132) (upd (loopSto t (w, p)) "number" (.dat (.int (x : Nat)))) (forBody ((bodyOf (stmtAt 11)).getD 4 (.Pass default))) (.next (loopSto t (walkStep (w, p) x))) := by
  have hs := sizeLine_eq
  have hj : x / 9 % 4 < 4 := Nat.mod_lt _ (by omega)
  have hk : x / 36 % 4 < 4 := Nat.mod_lt _ (by omega)
  generalize hjj : x / 9 % 4 = j at hj
  generalize hkk : x / 36 % 4 = k at hk
  have sr := shareN_r hj
  have vr := valueN_r hk
  refine ex_cons (sx_swap (ws := [("share", .dat (.int (shareN j))), ("value", .dat (.int (valueN k)))]) (.cons (fun _ _ => rfl) (evv_dat ?_) (by show ("share" : Str) ∉ [("value" : Str)]; decide) (.cons (fun _ _ => rfl) (evv_dat ?_) (by show ("value" : Str) ∉ []; decide) .nil)) (.cons (.loc rfl) (.cons (.loc rfl) .nil)) rfl (by show (2 : Nat) ≤ _; omega) rfl rfl) ?_
  · rw [← hjj, ← shE x]
    exact ev_binop ev_int (ev_binop (ev_binop (ev_binop ev_int ev_int p30) ev_int q30) (ev_binop (ev_binop (ev_name rfl) ev_int (fdivS _ 9 (by omega) (by omega))) ev_int (mod_ii _ 4 (by omega))) (mulS _ _ (by decide) (by decide))) (add_ii _ _)
  · rw [← hkk, ← vaE x]
    exact ev_binop ev_int (ev_binop (ev_binop (ev_binop ev_int ev_int p20) ev_int q20) (ev_binop (ev_binop (ev_name rfl) ev_int (fdivS _ 36 (by omega) (by omega))) ev_int (mod_ii _ 4 (by omega))) (mulS _ _ (by decide) (by decide))) (add_ii _ _)
  have hx3 : x % 3 < 3 := Nat.mod_lt _ (by omega)
  have ht12 : t % 12 < 12 := Nat.mod_lt _ (by omega)
  have hT : turnN p x t + 48 * (x / 3 % 3) < 192 := by unfold turnN; omega
  generalize htu : turnN p x t = u0 at hT
  have hu : u0 % 48 < 48 := Nat.mod_lt _ (by omega)
  have hdue : dueN j k = valueN k * (2147483648 - shareN j) := rfl
  refine ex_cons (sx_swap (ws := [("turn", .dat (.int (u0 : Nat))), ("due", .dat (.int (dueN j k)))]) (.cons (fun _ _ => rfl) (evv_dat ?_) (by show ("turn" : Str) ∉ [("due" : Str)]; decide) (.cons (fun _ _ => rfl) (evv_dat ?_) (by show ("due" : Str) ∉ []; decide) .nil)) (.cons (.loc rfl) (.cons (.loc rfl) .nil)) rfl (by show (2 : Nat) ≤ _; omega) rfl rfl) ?_
  · rw [← htu, ← tuE p x t]
    exact ev_binop (ev_binop ev_int (ev_binop (ev_binop (ev_name rfl) ev_int (add_ii _ _)) (ev_binop (ev_name rfl) ev_int (mod_ii _ 3 (by omega))) (add_ii _ _)) (mulS _ _ (by decide) (by decide))) (ev_binop (ev_name rfl) ev_int (mod_ii _ 12 (by omega))) (add_ii _ _)
  · rw [hdue]
    exact ev_binop (ev_name rfl) (ev_binop (ev_binop ev_int ev_int p31) (ev_name rfl) (sub_ii _ _)) (mulS _ _ (by omega) (by omega))
  obtain ⟨hq1, hq2, hq3, hq4⟩ := C.hue _ hT
  have hsh := C.share j hj
  have hva := C.value k hk
  have hcol := toldOk_parts (C.colour (u0 % 48) j k hu hj hk)
  obtain ⟨obh, pmh, cdh, doch, hkh, hdh, hch⟩ := id hh
  obtain ⟨obl, pml, cdl, docl, hkl, hdl, hcl⟩ := id hl
  have f1 : (u0 + 48 * (x / 3 % 3)) % 8 = u0 % 48 % 8 := by omega
  have f2 : (((u0 + 48 * (x / 3 % 3)) / 8 : Nat) : Int) % 6 = ((u0 % 48 / 8 : Nat) : Int) := by omega
  have hTi : ((u0 : Nat) : Int) + 48 * ((x : Int) / 3 % 3) = ((u0 + 48 * (x / 3 % 3) : Nat) : Int) := by omega
  have ha := hsv_act (n := n) B N3 hh (divII ((u0 + 48 * (x / 3 % 3) : Nat) : Int) 48) (divII (shareN j) (2 ^ 30)) (divII (valueN k) (2 ^ 20)) _ hsh.2 hq1 (by rw [hq3]; decide)
  rw [hq2, f1, f2] at ha
  refine ex_cons (sx_unpack (ts := [("red", _), ("green", _), ("blue", _)]) (ds := [.flt (rgbN (u0 % 48) j k).1, .flt (rgbN (u0 % 48) j k).2.1, .flt (rgbN (u0 % 48) j k).2.2]) (call_f (fv_global B rfl hhg) hkh hdh (.cons (fun _ _ => rfl) ?_ (.cons (fun _ _ => rfl) ?_ (.cons (fun _ _ => rfl) ?_ .nil))) ha) rfl (.cons (.loc rfl) (.cons (.loc rfl) (.cons (.loc rfl) .nil))) rfl rfl) ?_
  · rw [← hTi]
    exact ev_binop (ev_binop (ev_name rfl) (ev_binop ev_int (ev_binop (ev_binop (ev_name rfl) ev_int (fdivS _ 3 (by omega) (by omega))) ev_int (mod_ii _ 3 (by omega))) (mulS _ _ (by decide) (by decide))) (add_ii _ _)) ev_int (div_ii _ 48 (by decide) (by rw [hTi, hq4]; decide))
  · exact ev_binop (ev_name rfl) (ev_binop ev_int ev_int p30) (div_ii _ 1073741824 (by decide) (by have := hsh.1; rw [show (1073741824 : Int) = 2 ^ 30 from rfl, this]; decide))
  · exact ev_binop (ev_name rfl) (ev_binop ev_int ev_int p20) (div_ii _ 1048576 (by decide) (by rw [show (1048576 : Int) = 2 ^ 20 from rfl, hva]; decide))
  generalize rgbN (u0 % 48) j k = rgb at hcol
  obtain ⟨r, g, b⟩ := rgb
  obtain ⟨c1, c2, c3, c4, c5, c6, c7, c8, c9⟩ := hcol
  have hb := hls_act (n := n) B N N3 hl r g b c1 c2 c3
  rw [c4, c5, c6] at hb
  refine ex_cons (sx_assign (call_f (fv_global B rfl hlg) hkl hdl (.cons (fun _ _ => rfl) (ev_name rfl) (.cons (fun _ _ => rfl) (ev_name rfl) (.cons (fun _ _ => rfl) (ev_name rfl) .nil))) hb) (.loc rfl) rfl) ?_
  have hmod : ((u0 : Nat) : Int) % 48 = ((u0 % 48 : Nat) : Int) := by omega
  have hd := C.due j k hj hk
  have hne := ne_tri (G := G) (n := n + 1) N3 (divII ((u0 % 48 : Nat) : Int) 48, divII (dueN j k) (2 ^ 51), satN j k) c7 c8 c9
  have h48 := (C.hue (u0 % 48) (by omega)).2.2.2
  refine ex_cons (sx_if (b := false) (tv_cmp (ev_name rfl) (ev_tuple (ds := [.flt (divII ((u0 % 48 : Nat) : Int) 48), .flt (divII (dueN j k) (2 ^ 51)), .flt (satN j k)]) (.cons (fun _ _ => rfl) ?_ (.cons (fun _ _ => rfl) ?_ (.cons (fun _ _ => rfl) ?_ .nil))) (by show (3 : Nat) ≤ _; omega)) hne) (fun q => by cases q) (fun _ => ex_nil)) ?_
  · rw [← hmod]
    exact ev_binop (ev_binop (ev_name rfl) ev_int (mod_ii _ 48 (by omega))) ev_int (div_ii _ 48 (by decide) (by rw [hmod, h48]; decide))
  · exact ev_binop (ev_name rfl) (ev_binop ev_int ev_int p51) (div_ii _ 2251799813685248 (by decide) (by have := hd.1; rw [show (2251799813685248 : Int) = 2 ^ 51 from rfl, this]; decide))
  · have hsat : satN j k = divII (shareN j * valueN k) (min (dueN j k) (2251799813685248 - dueN j k)) := rfl
    rw [hsat]
    refine ev_binop (ev_binop (ev_name rfl) (ev_name rfl) (mulS _ _ (by omega) (by omega))) (call_b (fv_builtin B rfl N.min0 N.min1) (.cons (fun _ _ => rfl) (ev_name rfl) (.cons (fun _ _ => rfl) (ev_binop (ev_binop ev_int ev_int p51) (ev_name rfl) (sub_ii _ _)) .nil)) (min2_i _ _)) (div_ii _ _ ?_ ?_)
    · have := hd.2.2; rw [show (2251799813685248 : Int) = 2 ^ 51 from rfl, this]; decide
    · rw [← hsat, hd.2.1]; decide
  have hsp := C.spot (u0 % 48) hu
  have h4 : ¬ Float64.isInf (Float64.ofInt 4) = true := by decide +kernel
  refine ex_cons (sx_assign (call_t (fv_builtin B rfl N3.int0 N3.int1) (.cons (fun _ _ => rfl) (ev_binop ev_int (ev_item (ev_name rfl) ev_int (type_t _) lk_tuple (item_t _ 0 _ rfl (by show (3 : Nat) ≤ _; omega)) (fun _ _ => rfl)) (mul_if 4 _ h4)) .nil) (int_fI hsp)) (.loc rfl) rfl) ?_
  have hst : u0 % 48 / 12 = step p x := by rw [← htu]; unfold turnN step; omega
  rw [hst]
  have hstep : step p x < 4 := Nat.mod_lt _ (by omega)
  have hit : ([97, 98, 99, 100] : List Nat)[step p x]? = some (97 + step p x) := by
    generalize step p x = q at hstep
    match q, hstep with
    | 0, _ => rfl
    | 1, _ => rfl
    | 2, _ => rfl
    | 3, _ => rfl
  refine Ex.post (ex_cons (sx_assign (ev_binop (ev_name rfl) (ev_item (ev_txt (l := [97, 98, 99, 100]) rfl) (ev_name rfl) (type_s _) lk_str (item_s _ _ _ hit (by show (4 : Nat) ≤ _; omega)) (fun _ _ => rfl)) (add_ss _ _ (by show w.length + 1 ≤ sizeLine; omega))) (.loc rfl) rfl) ex_nil) (.cons rfl (.cons rfl (.cons rfl .nil)))
end
end Mine

namespace Mine
open PySem PySem.Calls PySem.Spec PyProof.Rows
set_option maxRecDepth 100000
set_option linter.unusedVariables false
set_option linter.unusedSimpArgs false

theorem sum_cast : ∀ l : List Nat, (l.map fun x : Nat => (x : Int)).sum = ((l.sum : Nat) : Int)
  | [] => rfl
  | x :: l => by rw [List.map_cons, List.sum_cons, List.sum_cons, sum_cast l]; omega

noncomputable def natD (l : List Nat) : List D := l.map fun x : Nat => .int (x : Int)
theorem walk_len : ∀ (l : List Nat) (a : List Nat × Nat), (l.foldl walkStep a).1.length = a.1.length + l.length
  | [], a => rfl
  | x :: l, a => by rw [List.foldl_cons, walk_len l]; simp [walkStep]; omega
theorem walk_place : ∀ (l : List Nat) (a : List Nat × Nat), a.2 < 4 → (l.foldl walkStep a).2 < 4
  | [], a, h => h
  | x :: l, a, h => by rw [List.foldl_cons]; exact walk_place l _ (Nat.mod_lt _ (by omega))

section
variable {G : Gd}
set_option maxHeartbeats 4000000 in
theorem walk_act {n : Nat} (B : Base G) (N : Nm G) (N3 : Nm3 G) (C : Cols) (hf : FnAt G 132 (stmtAt 11)) (hh : FnAt G 118 (stmtAt 6)) (hhg : G.mg "hsv_to_rgb" = some (.ref 118)) (hl : FnAt G 111 (stmtAt 5)) (hlg : G.mg "rgb_to_hls" = some (.ref 111))
    (nums : List Nat) (hlen : nums.length ≤ 50) : Act G (n + 2) (fun vs => call (.ref 132) vs) [.list (natD nums)] (.str (S (walkOf nums))) := by
  obtain ⟨ob, pm, cd, doc, hk, hd, hc⟩ := hf
  have hs := sizeLine_eq
  refine fn_intro (names := ["numbers"]) (body := bodyOf (stmtAt 11)) B hk hd hc rfl rfl rfl rfl ?_ rfl (by decide) ?_ ?_ rfl rfl rfl ?_
  · intro vs hv
    match vs, hv with
    | [a], _ => rfl
  · intro x hx
    simp only [List.mem_cons, List.not_mem_nil, or_false] at hx
    rcases hx with rfl
    exact .inl rfl
  · intro L p hp; cases hp
  · intro A L
    have hsum : Act G (n + 1) (fun vs => call (.builtin "sum") vs) [.list (natD nums)] (.int (nums.sum : Nat)) := by
      have := sum_is (G := G) (n := n + 1) (nums.map fun x : Nat => (x : Int))
      rwa [sum_cast, List.map_map] at this
    refine ex_cons (sx_swap (ws := [("walk", .dat (.str (S [97]))), ("place", .dat (.int 0)), ("total", .dat (.int (nums.sum : Nat)))]) (.cons (fun _ _ => rfl) (evv_dat (ev_txt rfl)) (by show ("walk" : Str) ∉ [("place" : Str), "total"]; decide) (.cons (fun _ _ => rfl) (evv_dat ev_int) (by show ("place" : Str) ∉ [("total" : Str)]; decide) (.cons (fun _ _ => rfl) (evv_dat (call_b (fv_builtin B rfl N3.sum0 N3.sum1) (.cons (fun _ _ => rfl) (ev_name rfl) .nil) hsum)) (by show ("total" : Str) ∉ []; decide) .nil))) (.cons (.loc rfl) (.cons (.loc rfl) (.cons (.loc rfl) .nil))) rfl (by show (3 : Nat) ≤ _; omega) rfl rfl) ?_
    generalize ht : nums.sum = t
    have ht6 : t % 6 < 6 := Nat.mod_lt _ (by omega)
    obtain ⟨l1, l2, l, l3⟩ := C.light _ ht6
    obtain ⟨k1, k2, k3, k4⟩ := C.lightC
    have k4 := k4 _ ht6
    have hmod : ((t : Nat) : Int) % 6 = ((t % 6 : Nat) : Int) := by omega
    obtain ⟨obh, pmh, cdh, doch, hkh, hdh, hch⟩ := id hh
    obtain ⟨obl, pml, cdl, docl, hkl, hdl, hcl⟩ := id hl
    have ha := hsv_act (n := n) B N3 hh (divII ((t % 6 : Nat) : Int) 6) (divII 1 (2 ^ 53)) (divII 1 1) _ k3 l2 (by rw [k4]; decide)
    generalize six (((t % 6 : Nat) : Int) % 6) (divII 1 1) (pF (divII 1 (2 ^ 53)) (divII 1 1)) (qF (divII 1 (2 ^ 53)) (divII 1 1) (fracF (divII ((t % 6 : Nat) : Int) 6) ((t % 6 : Nat) : Int))) (tF (divII 1 (2 ^ 53)) (divII 1 1) (fracF (divII ((t % 6 : Nat) : Int) 6) ((t % 6 : Nat) : Int))) = rgb at ha l3
    obtain ⟨r, g, b⟩ := rgb
    refine ex_cons (sx_unpack (ts := [("red", _), ("green", _), ("blue", _)]) (ds := [.flt r, .flt g, .flt b]) (call_f (fv_global B rfl hhg) hkh hdh (.cons (fun _ _ => rfl) ?_ (.cons (fun _ _ => rfl) ?_ (.cons (fun _ _ => rfl) ?_ .nil))) ha) rfl (.cons (.loc rfl) (.cons (.loc rfl) (.cons (.loc rfl) .nil))) rfl rfl) ?_
    · rw [← hmod]
      exact ev_binop (ev_binop (ev_name rfl) ev_int (mod_ii _ 6 (by omega))) ev_int (div_ii _ 6 (by decide) (by rw [hmod, l1]; decide))
    · exact ev_binop ev_int (ev_binop ev_int ev_int p53) (div_ii 1 9007199254740992 (by decide) (by have := k1; rw [show (9007199254740992 : Int) = 2 ^ 53 from rfl, this]; decide))
    · exact ev_binop ev_int ev_int (div_ii 1 1 (by decide) (by rw [k2]; decide))
    obtain ⟨c1, c2, c3, c4, c5, c6, c7, c8, c9⟩ := toldOk_parts l3
    have hb := hls_act (n := n) B N N3 hl r g b c1 c2 c3
    rw [c4, c5, c6] at hb
    refine ex_cons (sx_assign (call_f (fv_global B rfl hlg) hkl hdl (.cons (fun _ _ => rfl) (ev_name rfl) (.cons (fun _ _ => rfl) (ev_name rfl) (.cons (fun _ _ => rfl) (ev_name rfl) .nil))) hb) (.loc rfl) rfl) ?_
    have hne := ne_duo (G := G) (n := n + 1) N3 (divII ((t % 6 : Nat) : Int) 6) c7
    refine ex_cons (sx_if (b := false) (tv_cmp (ev_tuple (ds := [.flt (divII ((t % 6 : Nat) : Int) 6), .flt F1]) (.cons (fun _ _ => rfl) (ev_item (ev_name rfl) ev_int (type_t _) lk_tuple (item_t _ 0 _ rfl (by show (3 : Nat) ≤ _; omega)) (fun _ _ => rfl)) (.cons (fun _ _ => rfl) (ev_item (ev_name rfl) ev_int (type_t _) lk_tuple (item_t _ 2 _ rfl (by show (3 : Nat) ≤ _; omega)) (fun _ _ => rfl)) .nil)) (by show (2 : Nat) ≤ _; omega)) (ev_tuple (ds := [.flt (divII ((t % 6 : Nat) : Int) 6), .int 1]) (.cons (fun _ _ => rfl) ?_ (.cons (fun _ _ => rfl) ev_int .nil)) (by show (2 : Nat) ≤ _; omega)) hne) (fun q => by cases q) (fun _ => ex_nil)) ?_
    · rw [← hmod]
      exact ev_binop (ev_binop (ev_name rfl) ev_int (mod_ii _ 6 (by omega))) ev_int (div_ii _ 6 (by decide) (by rw [hmod, l1]; decide))
    refine ex_cons (σ' := loopSto t (nums.foldl walkStep ([97], 0))) ?_ (ex_ret (sx_ret (ev_name rfl)))
    refine sx_for_w (σ₀ := loopSto t ([97], 0)) (ds := natD nums) (itr_list (ev_name rfl)) (.loc rfl) (Sub.look (.cons rfl (.cons rfl (.cons rfl .nil)))) (fold_run (fun x : Nat => D.int (x : Int)) (loopSto t) walkStep nums ([97], 0) ?_) (fun x => rfl)
    intro pre x post e
    have h1 := walk_len pre ([97], 0)
    have h2 := walk_place pre ([97], 0) (by show (0 : Nat) < 4; omega)
    have h3 : pre.length ≤ 50 := by
      have := congrArg List.length e
      rw [List.length_append] at this; omega
    generalize pre.foldl walkStep ([97], 0) = a at h1 h2
    obtain ⟨w, p⟩ := a
    exact walk_step B N N3 C hh hhg hl hlg t x p w h2 (by rw [h1]; show 1 + _ ≤ _; omega)
end
end Mine

namespace Mine
open PySem PySem.Calls PySem.Spec PyProof.Rows PySem.W
set_option maxRecDepth 100000
set_option linter.unusedVariables false
set_option linter.unusedSimpArgs false

/-- what the frozen base says of the class -/
structure Cl (G : Gd) (K : Frag) : Prop where
  kin : ∀ h, G.kB.inH h → K.In h
  mro : mroIn K 100 (.type "list") = some true
  deq : mroIn K 100 (.type "collections.deque") = some false
  selfm : mroIn K 100 (.ref 100) = some true
  crt : ∃ oc od cd sl, K.lookup 100 = some ⟨oc, od, .cls cd, sl⟩ ∧ cd.abstract = false ∧ cd.hasDel = false ∧ cd.mro = [.ref 100, .type "list", .type "object"] ∧ (sl.toList[4]?).join = some (.builtin "list.__new__")
  call : specialIn K (.ref 100) "__call__" = some (some (.builtin "type.__call__"))
  typ : instIn K (.ref 100) (.type "type") = some true
  setat : findIn K (.ref 100) "__setattr__" = some (some (.builtin "object.__setattr__"))
  opq : nsIn K cStatics "thirdparty.any" = some none
  supLen : ks_superIn K 100 100 "__len__" = some (some (.builtin "list.__len__"))
  supInit : ks_superIn K 100 100 "__init__" = some (some (.builtin "list.__init__"))
  iter : findIn K (.ref 100) "__iter__" = some (some (.builtin "list.__iter__"))
  ga : findIn K (.ref 100) "__getattribute__" = some (some (.builtin "list.__getattribute__"))
  gh : findIn K (.ref 100) "__getattr__" = some none
  append : findIn K (.ref 100) "append" = some (some (.builtin "list.append"))
  getitem : findIn K (.ref 100) "__getitem__" = some (some (.builtin "list.__getitem__"))
  setitem : findIn K (.ref 100) "__setitem__" = some (some (.builtin "list.__setitem__"))
  push : findIn K (.ref 100) "push" = some (some (.ref 45))
  pop : findIn K (.ref 100) "pop_from" = some (some (.ref 53))
  len : findIn K (.ref 100) "__len__" = some (some (.ref 67))
  str : findIn K (.ref 100) "__str__" = some (some (.ref 74))
  count : findIn K (.ref 100) "part_count" = some (some (.ref 97))
  init : findIn K (.ref 100) "__init__" = some (some (.ref 38))
  size0 : findIn K (.ref 100) "_initial_size" = some none
  cls : ∃ cd, clsIn K 100 = some cd ∧ cd.hasDict = true
  fn : ∀ f, f = 38 ∨ f = 45 ∨ f = 53 ∨ f = 67 ∨ f = 74 ∨ f = 97 → typeIn K (.ref f) = some (.type "function")

section
variable {prog : Program} {w : World} {A : Around} {E : Value → Shared → Prop} {s : Shared} {K : Frag} {a : Addr} {ox : Obj} {od : Option Obj}

theorem acc_special {M : Model} {h : Heap} (X : K.In h) (I : InstAt h a ox 100 od) {name : Str} {r : Option Value} (e : findIn K (.ref 100) name = some r) : Looks M h (specialOf (.ref a) name) r :=
  I.type.andThen (looks_findIn X e)

theorem acc_check {M : Model} {id n : String} {rest : List Value} {kw : List (Str × Value)} {Q : Unit → Shared → Prop} (X : K.In s.heap) (I : InstAt s.heap a ox 100 od) (hm : mroIn K 100 (.type "list") = some true)
    (hk : builtinKind id = some .slot ∨ builtinKind id = some .method) (hs : splitId id = some ("list", n)) (ha : argsOk id ⟨.ref a :: rest, kw⟩) (q : Q () s) : wpAny M A (checkBuiltinCall id ⟨.ref a :: rest, kw⟩) Q E s := by
  have hi : Looks M s.heap (isInstance (.ref a) (.type "list")) true := I.type.andThen (looks_mroIn X hm)
  rcases hk with hk | hk
  · exact check_slot hk hs hi ha q
  · simp only [checkBuiltinCall, hk, hs]
    refine wpAny_bind (hi.here ?_)
    simp only [Bool.not_true, Bool.false_eq_true, if_false]
    cases hsig : Manifest.signature? id with
    | none => exact wpAny_pure q
    | some sig =>
      simp only [argsOk, hsig] at ha
      have h2 : Bind.checkArgs id sig ⟨.ref a :: rest, kw⟩ = pure () := ha
      show wpAny M A (Bind.checkArgs id sig ⟨.ref a :: rest, kw⟩) Q E s
      rw [h2]; exact wpAny_pure q

theorem acc_entry {name : Str} {id n : String} {B : Builtin} {rest : List Value} {Q : Value → Shared → Prop} (X : K.In s.heap) (I : InstAt s.heap a ox 100 od) (hm : mroIn K 100 (.type "list") = some true) (slot : Slot "list" name id)
    (hk : builtinKind id = some .slot ∨ builtinKind id = some .method) (hs : splitId id = some ("list", n)) (entry : entryFor table id = some B) (ha : argsOk id ⟨.ref a :: rest, []⟩)
    (hc : wpAny (model prog w) A.in1 (B ⟨.ref a :: rest, []⟩) (fun fin s' => ∃ v, fin = .done (.ret v) ∧ Q v s') E s) : wpAny (model prog w) A (call (.builtin id) (.ref a :: rest)) Q E s := by
  refine wpAny_call (codeAny_call_builtin slot.plain entry (acc_check X I hm hk hs ha (wpAny_mono hc (fun fin s' h' => ?_) fun _ _ h' => h')))
  obtain ⟨v, rfl, hv⟩ := h'; exact hv

/-- iter() of it -/
theorem acc_iter {items : Array Value} {n : Nat} {Q : Value → Shared → Prop} (X : K.In s.heap) (I : InstAt s.heap a ox 100 od) (hm : mroIn K 100 (.type "list") = some true) (hi : findIn K (.ref 100) "__iter__" = some (some (.builtin "list.__iter__")))
    (hQ : Q (.ref s.heap.objs.size) { s with heap := s.heap.push { cls := .type "list_iterator", data := .fields #[.ref a, .int 0 0] } }) : wpAny (model prog w) A (pyIter (.ref a)) Q E s := by
  have L := acc_special (M := model prog w) X I hi
  unfold pyIter
  refine wpAny_bind (L.here ?_)
  show wpAny _ A (callSpecialIfBoundUnlessNone? (.ref a) "__iter__" _ >>= _) Q E s
  refine wpAny_bind ?_
  simp only [callSpecialIfBoundUnlessNone?, bindSpecialIfBound?]
  refine wpAny_holding (wpAny_bind (wpAny_bind (L.here ?_)))
  simp only [slot_list_iter.bind]
  have hc : wpAny (model prog w) A (call (.builtin "list.__iter__") [.ref a]) (fun it s' => wpAny (model prog w) A (specialOf it "__next__" >>= fun r => match r with
      | none => (do rule "iter.non-iterator"; raiseError "TypeError" s!"iter() returned non-iterator of type '{← typeNameOf it}'") | some _ => pure it) Q E s') E s := by
    refine acc_entry (n := "__iter__") X I hm slot_list_iter (.inl (by decide +kernel)) (by decide +kernel) entry_list_iter (args_list_iter _) ?_
    show wpAny _ _ (do ret (← newFields "list_iterator" [.ref a, rawInt 0])) _ _ s
    refine wpAny_bind (wpAny_newObj_type (wpAny_pure ⟨_, rfl, ?_⟩))
    have hT : Shared.TypeIs { s with heap := s.heap.push { cls := .type "list_iterator", data := .fields #[.ref a, .int 0 0] } } (.ref s.heap.objs.size) "list_iterator" := ⟨_, Heap.get?_push_size _ rfl, rfl⟩
    exact wpAny_bind (wpAny_specialOf hT slot_listiter_next.lookup (wpAny_pure hQ))
  refine wpAny_bind (wpAny_askSetting (wpAny_ite ?_))
  have fin : wpAny (model prog w) A (call (.builtin "list.__iter__") [.ref a] >>= fun v => pure (some v)) (fun r s' => wpAny (model prog w) A (match r with
      | some it => (specialOf it "__next__" >>= fun r => match r with
        | none => (do rule "iter.non-iterator"; raiseError "TypeError" s!"iter() returned non-iterator of type '{← typeNameOf it}'") | some _ => pure it)
      | none => (do
        match ← bindSpecialIfBound? (.ref a) "__getitem__" with
        | none => rule "iter.not-iterable"; raiseError "TypeError" s!"'{← typeNameOf (.ref a)}' object is not iterable"
        | some _ => rule "iter.getitem-fallback"; newFields "iterator" [.ref a, ← mkInt 0])) Q E s') E s := wpAny_bind (wpAny_mono hc (fun it s' h' => wpAny_pure h') fun _ _ x => x)
  split
  · exact wpAny_bind (wpAny_pure (wpAny_pure fin))
  · exact wpAny_tryCatch (wpAny_bind (wpAny_pure (wpAny_pure fin)))
end
end Mine

namespace Mine
open PySem PySem.Calls PySem.Spec PyProof.Rows PySem.W
set_option maxRecDepth 100000
set_option linter.unusedVariables false
set_option linter.unusedSimpArgs false

/-- a sequence of whatever class -/
noncomputable def SeqO (h : Heap) (a : Addr) (items : Array Value) : Prop := ∃ o n, h.get? a = some o ∧ o.data = .seq items n
theorem SeqO.at {h h' : Heap} {a : Addr} {items : Array Value} (x : SeqO h a items) (k : ∀ o, h.get? a = some o → h'.get? a = some o) : SeqO h' a items := let ⟨o, n, e, d⟩ := x; ⟨o, n, k _ e, d⟩

section
variable {prog : Program} {w : World} {A : Around} {E : Value → Shared → Prop} {s : Shared}

theorem next_some {it l : Addr} {i : Nat} {items : Array Value} {x : Value} {Q : Option Value → Shared → Prop} (hit : s.heap.IsListIter it l i) (hl : SeqO s.heap l items) (hx : items[i]? = some x)
    (hQ : ∀ h', h'.IsListIter it l (i + 1) → Heap.SameBut it s.heap h' → Q (some x) { s with heap := h' }) : wpAny (model prog w) A (pyNext (.ref it)) Q E s := by
  obtain ⟨oi, hoi, hci, hdi⟩ := id hit
  obtain ⟨ob, n, hob, hdo⟩ := hl
  have hT := hit.typeIs
  unfold pyNext
  refine wpAny_bind (wpAny_attempt (wpAny_callSpecial?_slot (name := Str.ofString "__next__") hT slot_listiter_next (wpAny_call_entry slot_listiter_next hT entry_listiter_next ?_ (args_listiter_next _))))
  refine wpAny_bind (m := field (.ref it) 0) (wpAny_field hoi hdi (x := .ref l) rfl ?_)
  refine wpAny_ite ?_
  rw [if_neg (show ¬ ((Value.ref l == Value.none) = true) from Bool.false_ne_true)]
  refine wpAny_bind (m := field (.ref it) 1) (wpAny_field hoi hdi (x := .int i 0) rfl ?_)
  refine wpAny_bind (m := seqItems? (.ref l)) (wpAny_seqItems hob hdo ?_)
  simp only [Int.toNat_natCast, hx]
  refine wpAny_bind (wpAny_setField hoi hdi (by simp) (wpAny_pure ⟨x, rfl, wpAny_pure (hQ _ ⟨_, Heap.get?_update_self _ hoi (Obj.isFreed_of_fields (Obj.data_mapFields hdi _)), (Obj.cls_mapFields ..).trans hci, ?_⟩ (Heap.SameBut.update ..))⟩))
  rw [Obj.data_mapFields hdi]; simp [rawInt]

theorem next_none {it l : Addr} {i : Nat} {items : Array Value} {Q : Option Value → Shared → Prop} (hh : A.handled = none) (hit : s.heap.IsListIter it l i) (hl : SeqO s.heap l items) (hx : items[i]? = none)
    (hQ : ∀ h', Heap.ExtBut it s.heap h' → Q none { s with heap := h' }) : wpAny (model prog w) A (pyNext (.ref it)) Q E s := by
  obtain ⟨oi, hoi, hci, hdi⟩ := id hit
  obtain ⟨ob, n, hob, hdo⟩ := hl
  have hT := hit.typeIs
  unfold pyNext
  refine wpAny_bind (wpAny_attempt (wpAny_callSpecial?_slot (name := Str.ofString "__next__") hT slot_listiter_next (wpAny_call_entry slot_listiter_next hT entry_listiter_next ?_ (args_listiter_next _))))
  refine wpAny_bind (m := field (.ref it) 0) (wpAny_field hoi hdi (x := .ref l) rfl ?_)
  refine wpAny_ite ?_
  rw [if_neg (show ¬ ((Value.ref l == Value.none) = true) from Bool.false_ne_true)]
  refine wpAny_bind (m := field (.ref it) 1) (wpAny_field hoi hdi (x := .int i 0) rfl ?_)
  refine wpAny_bind (m := seqItems? (.ref l)) (wpAny_seqItems hob hdo ?_)
  simp only [Int.toNat_natCast, hx]
  refine wpAny_bind (wpAny_rule (wpAny_bind (wpAny_setField hoi hdi (by simp) ?_)))
  show wpAny _ _ (newExc (.type "StopIteration") [] >>= _) _ _ _
  refine wpAny_bind ?_
  simp only [newExc, newTuple]
  refine wpAny_bind (wpAny_newObj_type ?_ (by size_fits))
  refine wpAny_bind (m := firstArgMember _ _) (wpAny_of_eq (a := Value.none) (by first | rfl | (simp only [firstArgMember]; rfl)) ?_)
  refine wpAny_newObj_type ?_ (by size_fits)
  simp only [raiseNew]
  refine wpAny_bind (wpAny_handled ?_)
  rw [show A.in1.handled = none from hh]
  refine wpAny_bind (wpAny_pure (wpAny_throw ?_))
  refine wpAny_bind (wpAny_isInstance (T := "StopIteration") (b := true) ⟨_, Heap.get?_push_size _ rfl, rfl⟩ isSubtype_stop ?_)
  exact wpAny_pure (hQ _ (((Heap.SameBut.update ..).extBut.push _).push _))

theorem walks_seq (hh : A.handled = none) (I ax : Addr) (hne : ax ≠ I) (items : Array Value) : Walks prog w A I [I, ax] [I] items.size (fun i v => items[i]? = some v) (fun i h => h.IsListIter I ax i ∧ SeqO h ax items) where
  sub := fun b hb => by simp at hb; simp [hb]
  frame := fun _ _ _ st hk => ⟨st.1.at fun o e => hk I (by simp) o e, st.2.at fun o e => hk ax (by simp) o e⟩
  item := fun i s Q E hi st hQ => next_some st.1 st.2 (x := items[i]) (by simp [hi]) fun h' hit' hs' =>
    hQ _ h' s.toks (by simp [hi]) ⟨hit', st.2.at fun o e => hs'.extBut ax o hne e⟩ fun b o hb e => hs'.extBut b o (fun h => hb (by simp [h])) e
  done := fun s Q E st hQ => next_none hh st.1 st.2 (by simp) fun h' he' => hQ h' s.toks fun b o hb e => he' b o (fun h => hb (by simp [h])) e
  self := fun _ _ _ _ st hQ => wpAny_pyIter_listiter st.1 hQ
end

section
variable {G : Gd} {Γ : Cx} {σ : Sto} {K : Frag}

theorem acc_inst {k : Part} {s : Shared} (ok : Ok G k s) {v : Value} {ds : List D} {i : Int} (r : Rd k v (.acc ds i)) :
    ∃ a vs m dx od, v = .ref a ∧ s.heap.get? a = some (accO (vs : List Value).toArray m dx) ∧ InstAt s.heap a (accO vs.toArray m dx) 100 (some od) ∧ k a = some (accO vs.toArray m dx) ∧ s.heap.get? dx = some od ∧ IniD od i ∧ Rds k vs ds := by
  cases r with
  | @acc a dx od vs m _ _ h hd hi r => exact ⟨a, vs, m, dx, od, rfl, ok.sub _ _ h, ⟨ok.sub _ _ h, rfl, rfl, ok.sub _ _ hd⟩, h, ok.sub _ _ hd, hi, r⟩

theorem itr_acc {e : Expr} {ds : List D} {i : Int} (C : Cl G K) (h : Ev G Γ σ e (.acc ds i)) : Itr G Γ σ e ds := fun k o s Q E st hq =>
  h k o s _ E st fun k₁ s₁ v₁ g₁ r₁ => by
    have ok₁ := st.ok.grow g₁
    obtain ⟨a, vs, m, dx, od, rfl, ha, I, hk, _, _, hr⟩ := acc_inst ok₁ r₁
    refine acc_iter (C.kin _ ok₁.baseIn) I (items := vs.toArray) (n := m) C.mro C.iter ?_
    have g₂ := Gr.keeps (t := s₁.toks) ok₁ (h' := s₁.heap.push { cls := .type "list_iterator", data := .fields #[.ref a, .int 0 0] }) (fun b o e => Heap.get?_push_of_some _ e) V
    refine hq k₁ _ _ (g₁.trans g₂) (g₁.none_of (get?_size _)) ⟨?_, [s₁.heap.objs.size, a], (fun i v => vs.toArray[i]? = some v), (fun i h => h.IsListIter s₁.heap.objs.size a i ∧ SeqO h a vs.toArray), ⟨fun A hA => ?_, fun b hb => ?_, fun i h' st => ?_, fun i v hv => ?_, fun i s' t v A Q E hst hq => ?_⟩, ⟨⟨_, Heap.get?_push_size _ rfl, rfl, rfl⟩, ⟨_, m, Heap.get?_push_of_some _ ha, rfl⟩⟩⟩
    · cases e : k₁ s₁.heap.objs.size with
      | none => rfl
      | some o' => have := ok₁.sub _ _ e; rw [get?_size] at this; cases this
    · have := walks_seq (prog := G.prog) (w := G.w) hA s₁.heap.objs.size a (Nat.ne_of_lt (Heap.lt_size ha)) vs.toArray
      have e : vs.toArray.size = ds.length := by rw [List.size_toArray, hr.length]
      rw [e] at this
      exact this
    · rcases List.mem_cons.mp hb with rfl | hb
      · exact .inl rfl
      · rcases List.mem_cons.mp hb with rfl | hb
        · exact .inr ⟨_, hk⟩
        · cases hb
    · obtain ⟨⟨o', ho', _⟩, _⟩ := st; exact ⟨o', ho'⟩
    · exact hr.get (by simpa using hv)
    · obtain ⟨⟨o', ho', hc', _⟩, _⟩ := hst; exact lotg ho' hc' (by decide) hq
end
end Mine

namespace Mine
open PySem PySem.Calls PySem.Spec PyProof.Rows PySem.W
set_option maxRecDepth 100000
set_option linter.unusedVariables false
set_option linter.unusedSimpArgs false

inductive NoAcc : D → Prop
  | flat {d : D} (h : d.flat) : NoAcc d
  | list {xs : List D} (h : ∀ x ∈ xs, NoAcc x) : NoAcc (.list xs)
  | tup {xs : List D} (h : ∀ x ∈ xs, NoAcc x) : NoAcc (.tup xs)

mutual
theorem Rd.unput {k : Part} {a : Addr} {ob : Obj} (ha : k a = some ob) (hc : ob.cls = .ref 100) : ∀ {v : Value} {d : D}, Rd k v d → NoAcc d → Rd (fun b => if b = a then none else k b) v d
  | _, _, .none, _ => .none
  | _, _, .bool b, _ => .bool b
  | _, _, .int i t, _ => .int i t
  | _, _, .flt x t ht, _ => .flt x t ht
  | _, _, .str x t, _ => .str x t
  | _, _, .list (a := b) (n := n0) h r, n => by
    refine .list (a := b) (n := n0) ?_ (Rds.unput ha hc r ?_)
    · show (if b = a then _ else k b) = _
      rw [if_neg (fun q => ?_)]
      · exact h
      · subst q; rw [ha] at h; cases h; cases hc
    · cases n with
      | flat h => cases h
      | list h => exact h
  | _, _, .tup (a := b) (n := n0) h r, n => by
    refine .tup (a := b) (n := n0) ?_ (Rds.unput ha hc r ?_)
    · show (if b = a then _ else k b) = _
      rw [if_neg (fun q => ?_)]
      · exact h
      · subst q; rw [ha] at h; cases h; cases hc
    · cases n with
      | flat h => cases h
      | tup h => exact h
  | _, _, .acc _ _ _ _, n => by cases n with | flat h => cases h
theorem Rds.unput {k : Part} {a : Addr} {ob : Obj} (ha : k a = some ob) (hc : ob.cls = .ref 100) : ∀ {vs : List Value} {ds : List D}, Rds k vs ds → (∀ d ∈ ds, NoAcc d) → Rds (fun b => if b = a then none else k b) vs ds
  | _, _, .nil, _ => .nil
  | _, _, .cons h r, n => .cons (Rd.unput ha hc h (n _ (.head _))) (Rds.unput ha hc r fun d hd => n d (.tail _ hd))
end

section
variable {G : Gd} {Γ : Cx} {σ σ' : Sto} {out : Out} {K : Frag}

/-- an owned accumulator becomes a frozen one -/
theorem St.freezeA {k o s} (st : St G Γ σ k o s) {x : Str} {ds : List D} {i : Int} (hx : σ.lookup x = some (.acc ds i)) :
    ∃ a ob o', k a = none ∧ a ∉ V ∧ ob.cls = .ref 100 ∧ St G Γ (upd σ x (.dat (.acc ds i))) (k.put a ob) o' s ∧ Grs Γ k o s (k.put a ob) o' s := by
  obtain ⟨m, hns, hv⟩ := st.vars
  obtain ⟨v, hw, a, vs, n, dx, od, rfl, hla, hg, hr, hdx, hio⟩ := hv x _ hx
  obtain ⟨hka, hma, ob, hob, hnf⟩ := st.ownk _ (mem_lookup hla)
  have hle : Part.le k (k.put a (accO vs n dx)) := fun b o' e => by
    unfold Part.put
    split
    · rename_i h; subst h; rw [hka] at e; cases e
    · exact e
  have hin : (k.put a (accO vs n dx)).inH s.heap := fun b o' e => by
    unfold Part.put at e
    split at e
    · rename_i h; subst h; cases e; exact hg
    · exact st.ok.sub b o' e
  have hvol : ∀ b ∈ V, (k.put a (accO vs n dx)) b = none := fun b hb => by
    unfold Part.put
    split
    · rename_i h; subst h
      exact absurd hb (st.ok.tab.away hob hnf).1
    · exact st.ok.vol b hb
  have hput : ∀ b, b ≠ a → (k.put a (accO vs n dx)) b = k b := fun b hb => by unfold Part.put; rw [if_neg hb]
  refine ⟨a, accO vs n dx, o.filter (fun p => decide (p.2 ≠ a)), hka, (st.ok.tab.away hob hnf).1, rfl, ⟨⟨st.ok.base.trans hle, hin, hvol, st.ok.bare, st.ok.tab, st.ok.tk⟩, st.rm, st.fn, st.gl, st.bl, fun b hb => ?_, st.locm, ⟨m, hns, fun y W e => ?_⟩, fun p hp => ?_, ?_, st.cel, st.celd⟩, ⟨⟨hle, hin, hvol, fun b o' e => ?_, fun b o' _ e => e, fun b o' e => ⟨o', e⟩, rfl, st.ok.bare, st.ok.tab, st.ok.tk⟩, fun p hp => .inl (List.mem_map_of_mem (List.mem_filter.mp hp).1)⟩⟩
  · obtain ⟨h1, r⟩ := st.mutk b hb
    exact ⟨by rw [hput b (fun q => hma (q ▸ hb))]; exact h1, r⟩
  · rw [lookup_upd] at e
    by_cases hy : y = x
    · subst hy
      rw [if_pos rfl] at e; cases e
      exact ⟨_, hw, .acc (vs := vs.toList) (n := n) (by rw [Part.put_self]) (hle _ _ hdx) hio (hr.mono hle)⟩
    · rw [if_neg hy] at e
      obtain ⟨v', hw', hr'⟩ := hv y W e
      have look : ∀ b, o.lookup y = some b → (o.filter (fun p => decide (p.2 ≠ a))).lookup y = some b := fun b hb =>
        lookup_filter hb fun q => by
          subst q
          exact hy (nodup_snd st.ownd (mem_lookup hb) (mem_lookup hla))
      refine ⟨v', hw', ?_⟩
      cases W with
      | dat d => exact Rd.mono hle hr'
      | lst ds' =>
        obtain ⟨b, vs', n', e1, hl, hg', r'⟩ := hr'
        exact ⟨b, vs', n', e1, look b hl, hg', r'.mono hle⟩
      | acc ds' i' =>
        obtain ⟨b, vs', n', dx', od', e1, hl, hg', r', hd, hi⟩ := hr'
        exact ⟨b, vs', n', dx', od', e1, look b hl, hg', r'.mono hle, hle _ _ hd, hi⟩
  · have hp' := List.mem_filter.mp hp
    obtain ⟨h1, h2, r⟩ := st.ownk p hp'.1
    exact ⟨by rw [hput p.2 (by simpa using hp'.2)]; exact h1, h2, r⟩
  · exact st.ownd.sublist ((List.filter_sublist).map _)
  · by_cases hb : b = a
    · subst hb; exact .inr (.inl (List.mem_append.mpr (.inl (List.mem_append.mpr (.inr (List.mem_map_of_mem (mem_lookup hla)))))))
    · rw [hput b hb] at e; exact .inl e

theorem ev_borrowA {x : Str} {ds : List D} {i : Int} {e : Expr} {d : D} (hx : σ.lookup x = some (.acc ds i)) (h : Ev G Γ (upd σ x (.dat (.acc ds i))) e d) (hd : NoAcc d) : Ev G Γ σ e d := fun k o s Q E st hq => by
  obtain ⟨a, ob, o', hk, ha, hc, st', _⟩ := st.freezeA hx
  exact h _ o' s Q E st' fun k₂ s₂ v g r => hq _ s₂ v (g.unput hk ha) (r.unput (g.ext _ _ (Part.put_self ..)) hc hd)

theorem ini_ns {h : Heap} {dx : Addr} {od : Obj} {i : Int} (hd : h.get? dx = some od) (hi : IniD od i) : ∃ t, h.Ns dx (fun x => if x = ("_initial_size" : Str) then some (.int i t) else none) := by
  obtain ⟨t, es, ep, h1, h2, h3⟩ := hi
  exact ⟨t, od, es, ep, hd, h1, h2, h3⟩

/-- a method of it -/
theorem acc_method {prog : Program} {w : World} {A : Around} {E : Value → Shared → Prop} {s : Shared} {a dx : Addr} {vs : Array Value} {m : Nat} {od : Obj} {i : Int} {name : Str} {f tf : Value} {pl : Sem Bool} {Q : Value × List Value → Shared → Prop} (X : K.In s.heap) (C : Cl G K)
    (I : InstAt s.heap a (accO vs m dx) 100 (some od)) (hi : IniD od i) (hf : findIn K (.ref 100) name = some (some f)) (ht : Looks (model prog w) s.heap (typeOf f) tf) (htf : tf = .type "function" ∨ tf = .type "method_descriptor") (hn : name ≠ ("_initial_size" : Str))
    (h : Q (f, [.ref a]) s) : wpAny (model prog w) A (getMethod (.ref a) name pl) Q E s := by
  have hcan : (Manifest.canonical "list.__getattribute__" != "object.__getattribute__") = false := by decide +kernel
  unfold getMethod specialOf
  refine wpAny_bind (wpAny_bind (I.type.here ((looks_findIn X C.ga).here ?_)))
  dsimp only
  rw [hcan, if_neg (by decide)]
  refine wpAny_bind (wpAny_bind (I.type.here ((looks_findIn X C.gh).here ?_)))
  refine wpAny_bind (wpAny_bind (I.type.here ((looks_findIn X hf).here (wpAny_bind (ht.here ?_)))))
  rw [if_neg (by rcases htf with rfl | rfl <;> decide +kernel)]
  refine wpAny_bind (wpAny_loadPart I.at_ ?_)
  obtain ⟨t, ns⟩ := ini_ns I.dict hi
  refine wpAny_bind (wpAny_nsGet ns ?_)
  rw [if_neg hn]
  exact wpAny_bind (wpAny_rule (wpAny_pure h))

theorem ev_methA {o : Expr} {name : Str} {apos pos : Pos} {es : List Expr} {ds dd : List D} {i : Int} {d : D} {f : Addr} {ob : Obj} {fd : FuncData} {pl : Sem Bool} (C : Cl G K) (ho : Ev G Γ σ o (.acc ds i)) (hfind : findIn K (.ref 100) name = some (some (.ref f))) (htf : typeIn K (.ref f) = some (.type "function"))
    (hn : name ≠ ("_initial_size" : Str)) (hk : G.kB f = some ob) (hd : ob.data = .func fd) (hs : Evs G Γ σ es dd) (h : Act G Γ.n (fun vs => call (.ref f) vs) (.acc ds i :: dd) d)
    (he : eval (.Call (.Attribute o name apos) es [] pos) Γ.env = (do
      let ov ← eval o Γ.env
      standAt apos.atName
      let (f, first) ← holding [ov] (getMethod ov name pl)
      callWith pos f first (backTo pos (starEach es Γ.env)) [])) : Ev G Γ σ (.Call (.Attribute o name apos) es [] pos) d := fun k ow s Q E st hq => by
  refine MethodCall_ (pl := pl) (ho k ow s _ E st fun k₀ s₀ v₀ g₀ r₀ => ?_) he
  have st₀ := st.grow g₀
  obtain ⟨a, vs, m, dx, od, rfl, ha, I, hka, hdx, hio, hr⟩ := acc_inst st₀.ok r₀
  have X := C.kin _ st₀.ok.baseIn
  refine acc_method X C I hio hfind (looks_typeIn X htf) (.inl rfl) hn ?_
  refine Calls.callWith_function (o := ob) (fd := fd) (evalArgs_evs hs st₀ fun k₁ s₁ us g₁ r₁ => ?_)
  have ok₁ := st₀.ok.grow g₁
  refine ⟨⟨ok₁.baseIn _ _ hk, hd⟩, ?_⟩
  exact h Γ.A k₁ s₁ (.ref a :: us) Q E st.rm ok₁ (.cons (r₀.mono g₁.ext) r₁) fun k₂ s₂ v g₂ r₂ => hq k₂ s₂ v ((g₀.trans g₁).trans g₂) r₂
end
end Mine

namespace Mine
open PySem PySem.Calls PySem.Spec PyProof.Rows PySem.W
set_option maxRecDepth 100000
set_option linter.unusedVariables false
set_option linter.unusedSimpArgs false

/-- the pairs of a list of pieces -/
noncomputable def piece (p : List Nat × List Nat) : D := .tup [.str (S p.1), .str (S p.2)]

theorem rds_pieces {k : Part} : ∀ {ps : List (List Nat × List Nat)} {vs : List Value}, Rds k vs (ps.map piece) → ∀ j, j < ps.length → ∃ (T : Addr) (n : Nat) (t u : Tok), vs[j]? = some (.ref T) ∧ k T = some (seqO "tuple" #[.str (S (ps.getD j ([], [])).1) t, .str (S (ps.getD j ([], [])).2) u] n)
  | [], _, _, j, h => by simp at h
  | p :: ps, _, .cons h r, 0, _ => by
    cases h with
    | @tup T vs m _ hk hr =>
      cases hr with
      | cons h1 hr => cases hr with
      | cons h2 hr =>
        cases hr
        cases h1 with | str _ t => cases h2 with | str _ u => exact ⟨T, m, t, u, rfl, hk⟩
  | p :: ps, _, .cons h r, j + 1, hj => by
    obtain ⟨T, n, t, u, e1, e2⟩ := rds_pieces r j (by simpa using hj)
    exact ⟨T, n, t, u, by simpa using e1, by simpa using e2⟩

noncomputable def tupAt (vs : List Value) (j : Nat) : Addr := match vs[j]? with | some (.ref T) => T | _ => 0

section
variable {prog : Program} {w : World} {A : Around}
theorem walksU_seq (hh : A.handled = none) (I ax : Addr) (hne : ax ≠ I) (vs : List Value) (Pt : Nat → Array Value → Prop) (hTI : ∀ j, j < vs.length → tupAt vs j ≠ I) (hvs : ∀ j, j < vs.length → vs[j]? = some (.ref (tupAt vs j))) :
    WalksU prog w A I (I :: ax :: (List.range vs.length).map (tupAt vs)) [I] vs.length Pt
      (fun j h => h.IsListIter I ax j ∧ SeqO h ax vs.toArray ∧ ∀ k, k < vs.length → ∃ it, h.IsTuple (tupAt vs k) it ∧ Pt k it)
      (fun j T h => (j < vs.length ∧ T = tupAt vs j) ∧ h.IsListIter I ax (j + 1) ∧ SeqO h ax vs.toArray ∧ ∀ k, k < vs.length → ∃ it, h.IsTuple (tupAt vs k) it ∧ Pt k it) where
  sub := fun b hb => by simp at hb; simp [hb]
  frame := fun _ _ _ st hk => ⟨st.1.at fun o e => hk I (by simp) o e, st.2.1.at fun o e => hk ax (by simp) o e,
    fun k hk' => let ⟨it, h1, h2⟩ := st.2.2 k hk'; ⟨it, h1.at fun o e => hk _ (List.mem_cons_of_mem _ (List.mem_cons_of_mem _ (List.mem_map.mpr ⟨k, List.mem_range.mpr hk', rfl⟩))) o e, h2⟩⟩
  item := fun i s Q E hi st hQ => by
    refine next_some st.1 st.2.1 (x := .ref (tupAt vs i)) (by simpa using hvs i hi) fun h' hit' hs' => ?_
    have tup : ∀ k, k < vs.length → ∃ it, h'.IsTuple (tupAt vs k) it ∧ Pt k it := fun k hk' => let ⟨it, h1, h2⟩ := st.2.2 k hk'; ⟨it, h1.extBut hs'.extBut (hTI k hk'), h2⟩
    obtain ⟨it, h1, h2⟩ := tup i hi
    exact hQ (tupAt vs i) it h' s.toks h2 h1 ⟨⟨hi, rfl⟩, hit', st.2.1.at fun o e => hs'.extBut ax o hne e, tup⟩ fun b o hb e => hs'.extBut b o (fun h => hb (by simp [h])) e
  go := fun _ _ _ _ _ s Q _ hm hQ => wpAny_letOwnedTupleGo_listiter hm.2.1 (hQ s.heap hm.2 fun _ _ _ e => e)
  apart := fun j T _ hm hmem => by
    rcases List.mem_cons.mp hmem with e | e
    · exact hTI j hm.1.1 (hm.1.2 ▸ e)
    · cases e
  done := fun s Q E st hQ => next_none hh st.1 st.2.1 (by simp) fun h' he' => hQ h' s.toks fun b o hb e => he' b o (fun h => hb (by simp [h])) e
  self := fun _ _ _ _ st hQ => wpAny_pyIter_listiter st.1 hQ
end

section
variable {M : Model} {A : Around} {E : Value → Shared → Prop} {s : Shared}
theorem code_gen {env : Env} {c P : Addr} {ps : Array Value} {pos : Pos} {qual : Str} {scope : Scope} {Q : Value → Shared → Prop} (hc : env.code = .ref c) (hok : s.heap.IsCode c P ps) (ht : s.heap.TableAt c P ps)
    (hQ : ∀ code h' tk ps', Heap.ExtBut P s.heap h' → s.heap.objs.size ≤ h'.objs.size → h'.IsCode c P ps' → h'.TableAt c P ps' → Q code { s with heap := h', toks := tk }) : wpAny M A (genexprCode env pos qual scope) Q E s := by
  cases hf : codeAmong pos ps.toList with
  | some c' => exact wpAny_genexprCode_hit hc hok hf (hQ c' s.heap s.toks ps (Heap.ExtBut.refl _ _) (Nat.le_refl _) hok ht)
  | none => exact wpAny_genexprCodeX hc hok ht hf fun c' h' tk he h1 h2 hok' _ ht' _ => hQ _ h' tk _ he (Nat.le_trans h1 (Nat.le_of_lt h2)) hok' ht'
end
end Mine

namespace Mine
open PySem PySem.Calls PySem.Spec PyProof.Rows PySem.W
set_option maxRecDepth 100000
set_option linter.unusedVariables false
set_option linter.unusedSimpArgs false

/-- the module behind the globals -/
noncomputable def ModOk (G : Gd) : Prop := ∃ bm ob, G.mg "__builtins__" = some (.ref bm) ∧ bm ≠ builtinsNs ∧ G.kB bm = some ob ∧ ob.cls = .type "module" ∧ ob.dict = some builtinsNs ∧ ob.data = .plain

/-- a generator over an accumulator's pieces -/
structure GenR (G : Gd) (A : Around) (s s₅ : Shared) (a n : Nat) (F : Nat → Value → Prop) (fp wr : List Addr) (g : Nat) (St : Nat → Shared → Prop) : Prop where
  W : WalksS G.prog G.w A.in4 a fp wr (GenOnlyQ g) n F St
  st : St 0 s₅
  ty : ∀ i s', St i s' → s'.TypeIs (.ref a) "generator"
  inf : a ∈ fp
  lt : ∀ b ∈ fp, b < s₅.heap.objs.size
  fresh : ∀ b ∈ wr, s.heap.get? b = none

theorem walksS_mono {prog : Program} {w : World} {A : Around} {I : Addr} {fp wr : List Addr} {G : Array GenState → Array GenState → Prop} {n : Nat} {P P' : Nat → Value → Prop} {St : Nat → Shared → Prop} (W : WalksS prog w A I fp wr G n P St) (h : ∀ i v, P i v → P' i v) : WalksS prog w A I fp wr G n P' St where
  sub := W.sub
  grefl := W.grefl
  gtrans := W.gtrans
  frame := W.frame
  item := fun i s Q E hi hs hq => W.item i s Q E hi hs fun v s' hv => hq v s' (h i v hv)
  done := W.done
  self := W.self

section
variable {G : Gd} {Γ : Cx} {σ : Sto} {K : Frag}

theorem tab_grow {h h₃ : Heap} {c P : Addr} {ps' : Array Value} (t : Tab h) (hcP : (c = 66 ∧ P = 62) ∨ (c = 73 ∧ P = 69)) (he : Heap.ExtBut P h h₃) (h1 : h₃.IsCode c P ps') (h2 : h₃.TableAt c P ps') : Tab h₃ := by
  rcases hcP with ⟨rfl, rfl⟩ | ⟨rfl, rfl⟩
  · refine ⟨⟨ps', h1, h2⟩, ?_⟩
    obtain ⟨ps, c1, c2⟩ := t.2
    exact ⟨ps, c1.extBut he (by decide) (by decide), ⟨let ⟨oc, vc, hoc, r⟩ := c2.1; ⟨oc, vc, he _ _ (by decide) hoc, r⟩, he _ _ (by decide) c2.2⟩⟩
  · refine ⟨?_, ⟨ps', h1, h2⟩⟩
    obtain ⟨ps, c1, c2⟩ := t.1
    exact ⟨ps, c1.extBut he (by decide) (by decide), ⟨let ⟨oc, vc, hoc, r⟩ := c2.1; ⟨oc, vc, he _ _ (by decide) hoc, r⟩, he _ _ (by decide) c2.2⟩⟩

theorem gen_acc {elt : Expr} {pa pb pt pself pos : Pos} {kt : Nat} {scope : Scope} {c P : Addr} {ps : List (List Nat × List Nat)} {i : Int} {k o s} {Q : Value → Shared → Prop} {E} (B : Base G) (Md : ModOk G) (C : Cl G K)
    (st : St G Γ σ k o s) (hself : σ.lookup ("self" : Str) = some (.dat (.acc (ps.map piece) i))) (hcode : Γ.env.code = .ref c) (hcP : (c = 66 ∧ P = 62) ∨ (c = 73 ∧ P = 69))
    (hco : scope.isCoroutine = false) (hclos : closureFor scope Γ.env = pure []) (hcell : ∀ y ∈ scope.names, y.2 ≠ .cell) (h0 : scope.names.lookup (".0" : Str) = some NameKind.local)
    (hxa : scope.names.lookup ("fws" : Str) = some .local) (hxb : scope.names.lookup ("part" : Str) = some .local) (hkind : scope.kind = .function) (hs : ∀ x, genFold (.Name "self" pself) Γ.env x = pure x) (F : Nat → Value → Prop)
    (helt : ∀ (A' : Around) E' j (t u : Tok) (s₂ : Shared) m₂ (code : Value) (L : Addr), A'.handled = none → j < ps.length → s₂.heap.Ns L m₂ → m₂ "fws" = some (.str (S (ps.getD j ([], [])).1) t) → m₂ "part" = some (.str (S (ps.getD j ([], [])).2) u) → G.kB.inH s₂.heap →
      wpAny G.M A' (eval elt (genEnv scope [] L code builtinsNs Γ.env)) (fun y s₃ => F j y ∧ Keeps s₂ s₃) E' s₂)
    (hQ : ∀ a s₅ fp wr g St, Gr V k s k s₅ → GenR G Γ.A s s₅ a ps.length F fp wr g St → Q (.ref a) s₅) :
    wpAny G.M Γ.A (eval (.GeneratorExp elt [⟨.Tuple [.Name "fws" pa, .Name "part" pb] kt pt, .Name "self" pself, [], 0⟩] scope pos) Γ.env) Q E s := by
  refine wpAny_with_toks (n := 1) st.ok.tk ?_
  have ok := st.ok
  refine wpAny_GeneratorExp_walksQT st.rm.hh hco hclos hcell h0 hxa hxb (by decide) hkind st.rm.room (wpAny_Name (load_var st hself (fun v r => ?_) (by decide)) (by decide)) hs
  obtain ⟨a0, vs, m, dx, od, rfl, ha, I, hka, hdx, hio, hr⟩ := acc_inst ok (show Rd k v (.acc (ps.map piece) i) from r)
  have hlen : vs.length = ps.length := by rw [hr.length, List.length_map]
  refine acc_iter (C.kin _ ok.baseIn) I (items := vs.toArray) (n := m) C.mro C.iter ?_
  refine ⟨(B.lim _ ok.baseIn).push _, ?_⟩
  obtain ⟨bm, ob, hb1, hb2, hb3, hb4, hb5, hb6⟩ := Md
  have hPV : P ∈ V := by rcases hcP with ⟨_, rfl⟩ | ⟨_, rfl⟩ <;> simp [V]
  have hkP : k P = none := ok.vol P hPV
  obtain ⟨oP, hoP⟩ := ok.tab.there P hPV
  have hPI : P ≠ s.heap.objs.size := Nat.ne_of_lt (Heap.lt_size hoP)
  obtain ⟨ps0, hok0, hta0⟩ : ∃ ps0, s.heap.IsCode c P ps0 ∧ s.heap.TableAt c P ps0 := by
    rcases hcP with ⟨rfl, rfl⟩ | ⟨rfl, rfl⟩
    · exact ok.tab.1
    · exact ok.tab.2
  have push : ∀ b o', s.heap.get? b = some o' → (s.heap.push { cls := .type "list_iterator", data := .fields #[.ref a0, .int 0 0] }).get? b = some o' := fun b o' e => Heap.get?_push_of_some _ e
  refine code_gen hcode (hok0.keeps push) (hta0.keeps push) fun code h₃ tk ps' he hge h1 h2 => ?_
  have hge' : s.heap.objs.size + 1 ≤ h₃.objs.size := by rw [← Heap.size_push]; exact hge
  have keep3 : ∀ b o', b ≠ P → s.heap.get? b = some o' → h₃.get? b = some o' := fun b o' hb e => he b o' hb (push b o' e)
  have kin3 : k.inH h₃ := fun b o' e => keep3 b o' (fun q => by rw [q, hkP] at e; cases e) (ok.sub b o' e)
  have kb3 : G.kB.inH h₃ := fun b o' e => kin3 b o' (ok.base b o' e)
  have hI3 : h₃.IsListIter s.heap.objs.size a0 0 := ⟨_, he _ _ (Ne.symm hPI) (Heap.get?_push_size _ rfl), rfl, rfl⟩
  refine wpAny_builtinsFor (by rw [st.gl]; exact B.ns _ kb3) hb1 hb2 (kb3 _ _ hb3) hb4 hb5 hb6 ?_
  have tup : ∀ j, j < vs.length → ∃ T n t u, vs[j]? = some (.ref T) ∧ tupAt vs j = T ∧ k T = some (seqO "tuple" #[.str (S (ps.getD j ([], [])).1) t, .str (S (ps.getD j ([], [])).2) u] n) := fun j hj => by
    obtain ⟨T, n, t, u, e1, e2⟩ := rds_pieces hr j (by omega)
    exact ⟨T, n, t, u, e1, by unfold tupAt; rw [e1], e2⟩
  have hTlt : ∀ j, j < vs.length → tupAt vs j < s.heap.objs.size := fun j hj => by
    obtain ⟨T, n, t, u, e1, e2, e3⟩ := tup j hj
    rw [e2]; exact Heap.lt_size (ok.sub _ _ e3)
  have hIw : ∀ b, b ∈ [s.heap.objs.size] → b = s.heap.objs.size := fun b hb => by simpa using hb
  refine ⟨s.heap.objs.size, _, [s.heap.objs.size], vs.length, (fun j it => j < ps.length ∧ ∃ t u, it = #[.str (S (ps.getD j ([], [])).1) t, .str (S (ps.getD j ([], [])).2) u]), _, _, (fun _ => true), F, rfl,
    fun A' hA => walksU_seq hA s.heap.objs.size a0 (Nat.ne_of_lt (Heap.lt_size ha)) vs _ (fun j hj => Nat.ne_of_lt (hTlt j hj)) (fun j hj => by obtain ⟨T, n, t, u, e1, e2, e3⟩ := tup j hj; rw [e2]; exact e1), ?_, ⟨hI3, ⟨_, m, kin3 _ _ hka, rfl⟩, ?_⟩, ?_, (B.lim _ kb3), ?_, ?_, ?_⟩
  · rintro j vals ⟨_, t, u, rfl⟩; exact ⟨_, _, rfl⟩
  · intro j hj
    obtain ⟨T, n, t, u, e1, e2, e3⟩ := tup j hj
    exact ⟨_, ⟨_, by rw [e2]; exact kin3 _ _ e3, rfl, n, rfl⟩, by omega, t, u, rfl⟩
  · intro b hb
    show b < h₃.objs.size
    rcases List.mem_cons.mp hb with rfl | hb
    · exact hge'
    · rcases List.mem_cons.mp hb with rfl | hb
      · exact Nat.lt_of_lt_of_le (Nat.lt_succ_of_lt (Heap.lt_size ha)) hge'
      · obtain ⟨j, hj, rfl⟩ := List.mem_map.mp hb
        exact Nat.lt_of_lt_of_le (Nat.lt_succ_of_lt (hTlt j (List.mem_range.mp hj))) hge'
  · intro hm
    have := hIw _ hm
    have hc : cStatics < s.heap.objs.size := let ⟨_, hn, _⟩ := B.lim _ ok.baseIn; hn.lt
    rw [this] at hc; exact Nat.lt_irrefl _ hc
  · intro href hhref
    refine ⟨fun A' E' j va vb s₂ m₂ hA hP hn ha hb hk => wpAny_pure ⟨rfl, s₂.heap, s₂.toks, rfl, fun _ _ e => e⟩, fun A' E' j va vb s₂ m₂ hA hP _ hn ha hb hk => ?_⟩
    obtain ⟨hj, t, u, e⟩ := hP
    have e1 : va = .str (S (ps.getD j ([], [])).1) t := by have := congrArg (fun a : Array Value => a[0]?) e; simpa using this
    have e2 : vb = .str (S (ps.getD j ([], [])).2) u := by have := congrArg (fun a : Array Value => a[1]?) e; simpa using this
    subst e1 e2
    refine helt A' E' j t u s₂ m₂ code _ hA hj hn ha hb fun b o' eb => ?_
    have h3 := kb3 b o' eb
    refine hk b (List.mem_range.mpr (Heap.lt_size h3)) (fun hm => ?_) o' (hhref b o' h3)
    have h4 := ok.baseIn b o' eb
    rw [hIw b hm] at h4
    exact Nat.lt_irrefl _ (Heap.lt_size h4)
  · intro a h₅ tk₅ gs hgb hag hsz hk₅ W hat htk
    have hpass : ∀ n : Nat, passing (fun _ => true) n 0 = List.range n := fun n => by unfold passing; rw [List.drop_zero, List.filter_eq_self.mpr (fun _ _ => rfl)]
    rw [hpass, List.length_range, hlen] at W
    rw [hlen] at hat
    have W' := walksS_mono (P' := F) W fun j y ⟨i', h1, h2⟩ => by
      have hj : j < ps.length := by
        rcases Nat.lt_or_ge j ps.length with q | q
        · exact q
        · rw [List.getElem?_eq_none (by simpa using q)] at h1; cases h1
      rw [List.getElem?_range hj] at h1
      cases h1; exact h2
    refine hQ a _ (a :: h₃.objs.size :: List.range h₃.objs.size) [h₃.objs.size, s.heap.objs.size] s.gens.size _ ⟨Part.le.refl k, fun b o' e => hk₅ b o' (kin3 b o' e), ok.vol, fun _ _ e => .inl e, fun b o' hb e => hk₅ b o' (keep3 b o' (fun q => hb (q ▸ hPV)) e), fun b o' e => ?_, rfl, ok.bare.push hgb, ?_, htk⟩
      ⟨W', hat, fun i' s' st' => st'.1.typeIs, List.mem_cons_self, ?_, ?_⟩
    · by_cases hb : b = P
      · subst hb; exact ⟨_, hk₅ _ _ h2.2⟩
      · exact ⟨o', hk₅ b o' (keep3 b o' hb e)⟩
    · have t3 : Tab h₃ := tab_grow (h := s.heap.push { cls := .type "list_iterator", data := .fields #[.ref a0, .int 0 0] }) ⟨let ⟨q, a, b⟩ := ok.tab.1; ⟨q, a.keeps push, b.keeps push⟩, let ⟨q, a, b⟩ := ok.tab.2; ⟨q, a.keeps push, b.keeps push⟩⟩ hcP he h1 h2
      exact ⟨let ⟨q, a, b⟩ := t3.1; ⟨q, a.keeps hk₅, b.keeps hk₅⟩, let ⟨q, a, b⟩ := t3.2; ⟨q, a.keeps hk₅, b.keeps hk₅⟩⟩
    · intro b hb
      show b < h₅.objs.size
      rw [hsz]
      rcases List.mem_cons.mp hb with rfl | hb
      · exact Nat.lt_succ_self _
      · rcases List.mem_cons.mp hb with rfl | hb
        · exact Nat.lt_succ_of_lt hag
        · exact Nat.lt_succ_of_lt (Nat.lt_trans (List.mem_range.mp hb) hag)
    · intro b hb
      rcases List.mem_cons.mp hb with rfl | hb
      · exact get?_ge (Nat.le_of_lt hge')
      · rw [hIw b hb]; exact get?_size _
end
end Mine

namespace Mine
open PySem PySem.Calls PySem.Spec PyProof.Rows PySem.W
set_option maxRecDepth 100000
set_option linter.unusedVariables false
set_option linter.unusedSimpArgs false

section
variable {prog : Program} {w : World} {A : Around} {E : Value → Shared → Prop} {s : Shared}

/-- a walk with one item put ahead of it, already taken -/
theorem walksS_ahead {I : Addr} {fp wr : List Addr} {G : Array GenState → Array GenState → Prop} {n : Nat} {P : Nat → Value → Prop} {St : Nat → Shared → Prop} (W : WalksS prog w A I fp wr G n P St) :
    WalksS prog w A I fp wr G (n + 1) (fun i v => ∃ j, i = j + 1 ∧ P j v) (fun i s => ∃ j, i = j + 1 ∧ St j s) where
  sub := W.sub
  grefl := W.grefl
  gtrans := W.gtrans
  frame := fun i s h' tk ⟨j, e, st⟩ ht hk => ⟨j, e, W.frame j s h' tk st ht hk⟩
  item := fun i s Q E hi ⟨j, e, st⟩ hq => W.item j s Q E (by omega) st fun v s' hv st' hm => hq v s' ⟨j, e, hv⟩ ⟨j + 1, by omega, st'⟩ hm
  done := fun s Q E ⟨j, e, st⟩ hq => by
    have : n = j := by omega
    subst this
    exact W.done s Q E st hq
  self := fun i s Q E ⟨j, e, st⟩ hq => W.self j s Q E st hq

theorem args_sum2 (a b : Value) : argsOk "sum" ⟨[a, b], []⟩ := by unfold argsOk; kernel_rfl

theorem sum_start {I : Addr} {fp wr : List Addr} {G : Array GenState → Array GenState → Prop} {n : Nat} {P : Nat → Value → Prop} {St : Nat → Shared → Prop} {val : Nat → Int} {i : Int} {t : Tok} {Q : Value → Shared → Prop} (W : WalksS prog w A.in1 I fp wr G n P St) (hst : St 0 s) (hfp : ∀ b ∈ fp, b < s.heap.objs.size)
    (hval : ∀ i v, P i v → ∃ t, v = .int (val i) t) (hQ : ∀ s' t', Moved wr G s s' → Q (.int (i + preSum val n) t') s') : wpAny (model prog w) A (call (.builtin "sum") [.ref I, .int i t]) Q E s := by
  refine call_function_tree F.kind_sum F.plain_sum F.entry_sum (args_sum2 _ _) ?_
  unfold Builtin.«sum»
  simp only [List.length_cons, List.length_nil]
  rw [if_neg (by decide)]
  refine wpAny_bind (wpAny_of_eq (show Builtin.Builtins.bindParams "sum" ["start"] 0 ⟨[.int i t], []⟩ = pure [some (.int i t)] from rfl) ?_)
  refine wpAny_bind (W.self 0 _ _ _ hst ?_)
  have W' := walksS_ahead W
  have hSf : s.heap.objs.size ∉ fp := fun hm => Nat.lt_irrefl _ (hfp _ hm)
  have hval' : ∀ q v, (∃ j, q = j + 1 ∧ P j v) → ∃ t, v = .int ((fun q => if q = 0 then i else val (q - 1)) q) t := fun q v ⟨j, e, hv⟩ => by
    subst e
    obtain ⟨t, rfl⟩ := hval j v hv
    exact ⟨t, rfl⟩
  have hsum : ∀ m, preSum (fun q => if q = 0 then i else val (q - 1)) (m + 1) = i + preSum val m := fun m => by
    induction m with
    | zero => simp [preSum]
    | succ m ih => rw [preSum, ih, preSum]; simp; omega
  have h1 : preSum (fun q => if q = 0 then i else val (q - 1)) 1 = i := by rw [hsum 0]; simp [preSum]
  dsimp only
  refine wpAny_ite_split (fun _ => ?_) (fun _ => ?_)
  · refine wpAny_bind (wpAny_rule ?_)
    refine wpAny_bind (wpAny_mkInt ?_)
    refine wpAny_bind (wpAny_pure ?_)
    simp only [List.forIn_cons, List.forIn_nil]
    refine wpAny_bind (wpAny_bind (wpAny_bind (wpAny_isInstance (T := "int") (b := false) (typeIs_int _ _ _) PySem.sub_int_str ?_)))
    simp only [Bool.false_eq_true, if_false]
    refine wpAny_pure (wpAny_bind (wpAny_bind (wpAny_isInstance (T := "int") (b := false) (typeIs_int _ _ _) PySem.sub_int_bytes ?_)))
    simp only [Bool.false_eq_true, if_false]
    refine wpAny_pure (wpAny_bind (wpAny_bind (wpAny_isInstance (T := "int") (b := false) (typeIs_int _ _ _) PySem.sub_int_bytearray ?_)))
    simp only [Bool.false_eq_true, if_false]
    refine wpAny_pure (wpAny_pure ?_)
    refine wpAny_bind (wpAny_newObj_type ?_)
    refine wpAny_pure ⟨plainId_quiet F.plain_sum_loop _, codeAny_sum_loopAnyS W' (fun q => if q = 0 then i else val (q - 1)) hval' s.heap.objs.size hSf n 1 _ s.toks 0 0 (.inl rfl) rfl (by omega)
      ⟨0, rfl, W.frame 0 s _ _ hst (by first | exact Nat.le_refl _ | exact Nat.le_succ _) fun b _ o e => Heap.get?_push_of_some _ e⟩ (by rw [h1]; exact Heap.get?_push_size _ rfl) fun s' t' hm => ?_⟩
    rw [hsum]
    exact hQ s' t' (hm.drop_new (by first | exact Nat.le_refl _ | exact Nat.le_succ _))
  · refine wpAny_bind (wpAny_pure ?_)
    simp only [List.forIn_cons, List.forIn_nil]
    refine wpAny_bind (wpAny_bind (wpAny_bind (wpAny_isInstance (T := "int") (b := false) (typeIs_int _ _ _) PySem.sub_int_str ?_)))
    simp only [Bool.false_eq_true, if_false]
    refine wpAny_pure (wpAny_bind (wpAny_bind (wpAny_isInstance (T := "int") (b := false) (typeIs_int _ _ _) PySem.sub_int_bytes ?_)))
    simp only [Bool.false_eq_true, if_false]
    refine wpAny_pure (wpAny_bind (wpAny_bind (wpAny_isInstance (T := "int") (b := false) (typeIs_int _ _ _) PySem.sub_int_bytearray ?_)))
    simp only [Bool.false_eq_true, if_false]
    refine wpAny_pure (wpAny_pure ?_)
    refine wpAny_bind (wpAny_newObj_type ?_)
    refine wpAny_pure ⟨plainId_quiet F.plain_sum_loop _, codeAny_sum_loopAnyS W' (fun q => if q = 0 then i else val (q - 1)) hval' s.heap.objs.size hSf n 1 _ t 0 2 (.inr rfl) rfl (by omega)
      ⟨0, rfl, W.frame 0 s _ _ hst (by first | exact Nat.le_refl _ | exact Nat.le_succ _) fun b _ o e => Heap.get?_push_of_some _ e⟩ (by rw [h1]; exact Heap.get?_push_size _ rfl) fun s' t' hm => ?_⟩
    rw [hsum]
    exact hQ s' t' (hm.drop_new (by first | exact Nat.le_refl _ | exact Nat.le_succ _))
end
end Mine

namespace Mine
open PySem PySem.Calls PySem.Spec PyProof.Rows PySem.W
set_option maxRecDepth 100000
set_option linter.unusedVariables false
set_option linter.unusedSimpArgs false

section
variable {G : Gd} {Γ : Cx} {σ : Sto} {K : Frag}

theorem ini_look {od : Obj} {i : Int} (h : IniD od i) : ∃ t, lookIn "_initial_size" od = some (some (.int i t)) := by
  obtain ⟨t, es, ep, h1, h2, h3⟩ := h
  refine ⟨t, ?_⟩
  have h4 : nsFind es "_initial_size" = some (.int i t) := (h3 "_initial_size").trans (if_pos rfl)
  unfold nsFind findBy at h4
  obtain ⟨e, he, hv⟩ := Option.map_eq_some_iff.mp h4
  unfold lookIn
  rw [h1]
  dsimp only
  rw [← Array.find?_toList] at he
  rw [he]
  dsimp only
  rw [hv]

theorem acc_found {od : Obj} {i : Int} (C : Cl G K) (h : IniD od i) : ∃ t, findObj K 100 (some od) "_initial_size" = some (.value (.int i t)) := by
  obtain ⟨t, ht⟩ := ini_look h
  obtain ⟨cd, hc, hd⟩ := C.cls
  refine ⟨t, ?_⟩
  unfold findObj
  rw [hc, C.size0]
  simp only [Option.bind_some]
  unfold W.ownOf
  rw [hd]
  simp only [if_true, ht, Option.bind_some]

theorem acc_attr {A : Around} {E : Value → Shared → Prop} {s : Shared} {a dx : Addr} {vs : Array Value} {m : Nat} {od : Obj} {i : Int} {Q : Value → Shared → Prop} (X : K.In s.heap) (C : Cl G K) (I : InstAt s.heap a (accO vs m dx) 100 (some od)) (hi : IniD od i)
    (h : ∀ t, Q (.int i t) { s with toks := s.toks + 1 }) : wpAny G.M A (getAttr (.ref a) "_initial_size" true) Q E s := by
  obtain ⟨t, hf⟩ := acc_found C hi
  have L0 := I.type (M := G.M)
  have L1 := looks_findIn (M := G.M) X C.ga
  have L2 := looks_findIn (M := G.M) X C.gh
  have L3 := looks_find (M := G.M) X I hf
  refine wpAny_bind (wpAny_mkText (wpAny_holding (wpAny_bind (L0 _ _ _ _ (fun _ _ e => e) (wpAny_bind (L1 _ _ _ _ (fun _ _ e => e) ?_))))))
  dsimp only
  rw [show (onTheHeap (Value.ref 100) && Value.builtin "list.__getattribute__" == Value.builtin "object.__getattribute__") = false from by decide +kernel, if_neg (by decide)]
  have hb : Looks G.M s.heap (hookBefore (.ref 100)) none := by
    unfold hookBefore
    rw [if_pos (by decide)]
    exact L2
  refine wpAny_bind (hb _ _ _ _ (fun _ _ e => e) (wpAny_bind (wpAny_attempt (wpAny_holding ?_))))
  unfold callGetattribute
  rw [show (true && onTheHeap (Value.builtin "list.__getattribute__")) = false from by decide, if_neg (by decide)]
  unfold boundAndCalled
  rw [F.slot_list_getattribute.bind]
  refine wpAny_bind (wpAny_pure ?_)
  show wpAny _ _ (call (.builtin "list.__getattribute__") [.ref a, .str "_initial_size" s.toks]) _ _ _
  refine acc_entry (prog := G.prog) (w := G.w) (s := { s with toks := s.toks + 1 }) (n := "__getattribute__") X I C.mro F.slot_list_getattribute (.inl (by decide +kernel)) (by decide +kernel) am_entry_list_getattribute (F.args_list_getattribute_2 _ _) ?_
  refine wpAny_bind (wpAny_pure (wpAny_bind (wpAny_pure (wpAny_bind (L0 _ _ _ _ (fun _ _ e => e) (wpAny_bind (L3 _ _ _ _ (fun _ _ e => e) ?_)))))))
  refine wpAny_pure ⟨_, rfl, ?_⟩
  exact wpAny_pure (h t)
end
end Mine

namespace Mine
open PySem PySem.Calls PySem.Spec PyProof.Rows PySem.W
set_option maxRecDepth 100000
set_option linter.unusedVariables false
set_option linter.unusedSimpArgs false

theorem isCode_both {h h' : Heap} {c P : Addr} {ps : Array Value} (x : h.IsCode c P ps) (hc : ∀ o, h.get? c = some o → h'.get? c = some o) (hP : ∀ o, h.get? P = some o → h'.get? P = some o) : h'.IsCode c P ps := by
  obtain ⟨o, vs, file, tf, flags, tg, inF, text, tt, op, ho, hd, h11, h2, h7, h9, h10, hop, hpd, htr, hne⟩ := x
  exact ⟨o, vs, file, tf, flags, tg, inF, text, tt, op, hc _ ho, hd, h11, h2, h7, h9, h10, hP _ hop, hpd, htr, hne⟩

section
variable {G : Gd} {Γ : Cx} {σ : Sto} {K : Frag}

/-- a generator used up -/
theorem gr_moved {k : Part} {s s₅ s' : Shared} {wr : List Addr} {g : Nat} (ok : Ok G k s) (g5 : Gr V k s k s₅) (hm : Moved wr (GenOnlyQ g) s₅ s') (hf : ∀ b ∈ wr, s.heap.get? b = none) : Gr V k s k s' := by
  have nw : ∀ b o, s.heap.get? b = some o → b ∉ wr := fun b o e hm => by rw [hf b hm] at e; cases e
  have go : ∀ b o o', s.heap.get? b = some o → s₅.heap.get? b = some o' → s'.heap.get? b = some o' := fun b o o' e e' => hm.heap b o' (nw b o e) e'
  have tb : ∀ c P, (∃ o, s.heap.get? c = some o) → (∃ o, s.heap.get? P = some o) → ∀ ps, s₅.heap.IsCode c P ps → s₅.heap.TableAt c P ps → s'.heap.IsCode c P ps ∧ s'.heap.TableAt c P ps := fun c P ⟨o1, e1⟩ ⟨o2, e2⟩ ps h1 h2 =>
    ⟨isCode_both h1 (fun o e => go c o1 o e1 e) (fun o e => go P o2 o e2 e), ⟨let ⟨oc, vc, hoc, r⟩ := h2.1; ⟨oc, vc, go c o1 oc e1 hoc, r⟩, go P o2 _ e2 h2.2⟩⟩
  have th : ∀ c P ps, s.heap.TableAt c P ps → (∃ o, s.heap.get? c = some o) ∧ ∃ o, s.heap.get? P = some o := fun c P ps ⟨⟨oc, vc, hoc, _⟩, hP⟩ => ⟨⟨_, hoc⟩, ⟨_, hP⟩⟩
  refine ⟨Part.le.refl k, fun b o e => go b o o (ok.sub b o e) (g5.sub b o e), ok.vol, fun _ _ e => .inl e, fun b o hb e => go b o o e (g5.keep b o hb e), fun b o e => ?_, hm.os.trans g5.os, g5.bare.movedS hm, ?_, Nat.lt_of_lt_of_le g5.tk hm.toks⟩
  · obtain ⟨o', e'⟩ := g5.there b o e
    exact ⟨o', go b o o' e e'⟩
  · obtain ⟨⟨p1, a1, b1⟩, p2, a2, b2⟩ := g5.tab
    obtain ⟨⟨q1, c1, d1⟩, q2, c2, d2⟩ := ok.tab
    obtain ⟨x1, x2⟩ := th _ _ _ d1
    obtain ⟨y1, y2⟩ := th _ _ _ d2
    exact ⟨⟨p1, tb _ _ x1 x2 p1 a1 b1⟩, p2, tb _ _ y1 y2 p2 a2 b2⟩

noncomputable def mOf : Stmt → Str → List (Str × Addr) → Value → Value → Value → Value → Value → FuncData
  | .FunctionDef name args body _ _ _ scope _ _ _, qual, clo, df, pm, cd, doc, ct => { name, qualname := qual, params := args, body := .stmts body, scope, globals := mainGlobals, closure := clo, defaults := df, kwdefaults := .none, doc, pyModule := pm, code := cd, builtins := builtinsNs, closureTuple := ct }
  | _, _, _, _, pm, cd, doc, _ => docDef default default [] default pm cd doc
noncomputable def classBody : Stmt → List Stmt
  | .ClassDef _ _ _ body _ _ _ _ _ _ _ => body
  | _ => []
noncomputable def methStmt (j : Nat) : Stmt := (classBody (stmtAt 3)).getD j (.Pass default)
noncomputable def MethAt (G : Gd) (a : Addr) (st : Stmt) (clo : List (Str × Addr)) (cd df : Value) : Prop :=
  ∃ ob qual pm doc ct, G.kB a = some ob ∧ ob.data = .func (mOf st qual clo df pm cd doc ct) ∧ ∀ h, G.kB.inH h → h.CodeRec cd qual

/-- a global name in an environment without a frame -/
theorem name_glob {M : Model} {A : Around} {E : Value → Shared → Prop} {s : Shared} {env : Env} {x : Str} {p : Pos} {v : Value} {Q : Value → Shared → Prop} (B : Base G) (hkind : env.scope.kind = .function) (hk : env.kindOf x = some .globalImplicit) (hg : env.globals = mainGlobals) (hin : G.kB.inH s.heap) (hv : G.mg x = some v) (hq : Q v s)
    (hd : (x == ("__debug__" : Str)) = false := by decide) : wpAny M A (eval (.Name x p) env) Q E s :=
  Calls.Name_function_global hkind hk (Calls.loadGlobal_global (by rw [hg]; exact B.ns _ hin) hv hq) hd
theorem name_blt {M : Model} {A : Around} {E : Value → Shared → Prop} {s : Shared} {env : Env} {x : Str} {p : Pos} {v : Value} {Q : Value → Shared → Prop} (B : Base G) (hkind : env.scope.kind = .function) (hk : env.kindOf x = some .globalImplicit) (hg : env.globals = mainGlobals) (hb : env.builtins = builtinsNs) (hin : G.kB.inH s.heap) (h0 : G.mg x = none) (hv : G.mb x = some v) (hq : Q v s)
    (hd : (x == ("__debug__" : Str)) = false := by decide) : wpAny M A (eval (.Name x p) env) Q E s :=
  Calls.Name_function_global hkind hk (Calls.loadGlobal_builtin (by rw [hg]; exact B.ns _ hin) h0 (by rw [hb]; exact B.bs _ hin) hv hq) hd

theorem len_call {A : Around} {E : Value → Shared → Prop} {s : Shared} {env : Env} {x : Str} {p1 p2 p3 : Pos} {m : Str → Option Value} {l : List Nat} {t : Tok} {Q : Value → Shared → Prop} (B : Base G) (N : Nm G) (hkind : env.scope.kind = .function) (hk : env.kindOf "len" = some .globalImplicit) (hx : env.kindOf x = some .local) (hg : env.globals = mainGlobals) (hb : env.builtins = builtinsNs) (hin : G.kB.inH s.heap)
    (hns : s.heap.Ns env.locals m) (hm : m x = some (.str (S l) t)) (hl : l.length ≤ sizeLine) (hq : ∀ u tk, Q (.int l.length u) { s with toks := tk }) (hd : (x == ("__debug__" : Str)) = false := by decide) : wpAny G.M A (eval (.Call (.Name "len" p1) [.Name x p2] [] p3) env) Q E s := by
  have hs := sizeLine_eq
  refine wpAny_Call_Name_kw (name_blt B hkind hk hg hb hin N.len0 N.len1 ?_)
  refine Calls.callWith_builtin rfl (Calls.evalArgs_plain (Calls.spliced_cons (wpAny_Name (wpAny_loadName_local hkind hx hns hm ?_) hd)))
  refine Calls.spliced_nil (P.len_str (by rw [S_length]; omega) ?_)
  rw [S_length]; exact hq _ _
end
end Mine

namespace Mine
open PySem PySem.Calls PySem.Spec PyProof.Rows PySem.W
set_option maxRecDepth 100000
set_option linter.unusedVariables false
set_option linter.unusedSimpArgs false

noncomputable abbrev Piece := List Nat × List Nat
noncomputable def ptext (ps : List Piece) : List Nat := ps.flatMap fun p => p.1 ++ p.2
noncomputable def psize (p : Piece) : Int := (p.1.length : Int) + (p.2.length : Int)

theorem preSum_pieces (ps : List Piece) : ∀ n, n ≤ ps.length → preSum (fun j => psize (ps.getD j ([], []))) n = ((ptext (ps.take n)).length : Int)
  | 0, _ => by simp [preSum, ptext]
  | n + 1, h => by
    have hn : n < ps.length := h
    have e : ps.take (n + 1) = ps.take n ++ [ps[n]] := by rw [List.take_add_one, List.getElem?_eq_getElem hn]; rfl
    have e2 : ps.getD n ([], []) = ps[n] := by rw [List.getD_eq_getElem?_getD, List.getElem?_eq_getElem hn]; rfl
    rw [preSum, preSum_pieces ps n (by omega), e]
    show _ + psize (ps.getD n ([], [])) = _
    rw [e2]
    unfold ptext psize
    rw [List.flatMap_append, List.length_append]
    simp

noncomputable def small (ps : List Piece) : Prop := ps.length ≤ 100 ∧ ∀ p ∈ ps, p.1.length ≤ 100 ∧ p.2.length ≤ 100
theorem small.at {ps : List Piece} (h : small ps) (j : Nat) : (ps.getD j ([], [])).1.length ≤ 100 ∧ (ps.getD j ([], [])).2.length ≤ 100 := by
  rw [List.getD_eq_getElem?_getD]
  cases e : ps[j]? with
  | none => simp
  | some p => exact h.2 p (List.mem_of_getElem? e)

section
variable {G : Gd} {K : Frag}

theorem len_act {n : Nat} (B : Base G) (N : Nm G) (N3 : Nm3 G) (Md : ModOk G) (C : Cl G K) (hf : MethAt G 67 (methStmt 4) [] (.ref 66) .none) (ps : List Piece) (i : Int) (hsm : small ps) :
    Act G (n + 1) (fun vs => call (.ref 67) vs) [.acc (ps.map piece) i] (.int (i + (ptext ps).length)) := by
  obtain ⟨ob, qual, pm, doc, ct, hk, hd, hc⟩ := hf
  have hs := sizeLine_eq
  refine fn_intro (fd := mOf (methStmt 4) qual [] .none pm (.ref 66) doc ct) (names := ["self"]) (body := bodyOf (methStmt 4)) B hk hd hc rfl rfl rfl rfl ?_ rfl (by decide) ?_ ?_ rfl rfl rfl ?_
  · intro vs hv
    match vs, hv with
    | [a], _ => rfl
  · intro x hx
    simp only [List.mem_cons, List.not_mem_nil, or_false] at hx
    rcases hx with rfl
    exact .inl rfl
  · intro L p hp; cases hp
  · intro A L
    have hsum : ∀ p, Fv G (cx A n (mOf (methStmt 4) qual [] .none pm (.ref 66) doc ct) L 67) (List.zip ["self"] (List.map Vl.dat [D.acc (ps.map piece) i])) (.Name "sum" p) (.builtin "sum") := fun p => fv_builtin B rfl N3.sum0 N3.sum1
    refine ex_ret (sx_ret fun k o s Q E st hq => ?_)
    refine wpAny_Call_Name_kw (hsum _ k o s _ E st ?_)
    refine Calls.callWith_builtin rfl (Calls.evalArgs_plain (Calls.spliced_cons ?_))
    refine gen_acc (c := 66) (P := 62) B Md C st rfl rfl (.inl ⟨rfl, rfl⟩) rfl rfl (by decide) rfl rfl rfl rfl (fun x => rfl) (fun j y => ∃ t, y = .int (psize (ps.getD j ([], []))) t) ?_ fun a s₅ fp wr g St g5 R => ?_
    · intro A' E' j t u s₂ m₂ code L' hA hj hn hfws hpart hin
      obtain ⟨h1, h2⟩ := hsm.at j
      refine wpAny_BinOp (len_call B N rfl rfl rfl st.gl st.bl hin hn hfws (by omega) fun u1 t1 => ?_)
      refine len_call B N rfl rfl rfl st.gl st.bl hin hn hpart (by omega) fun u2 t2 => ?_
      refine P.add_int ?_
      exact ⟨⟨_, rfl⟩, _, _, rfl, fun _ _ e => e⟩
    · refine Calls.spliced_cons ?_
      have st₅ := st.grow g5
      refine Attribute_name (wpAny_Name (load_var st₅ (V := .dat (.acc (ps.map piece) i)) rfl (fun v r => ?_) (by decide)) (by decide))
      obtain ⟨a0, vs, m, dx, od, rfl, ha, I, hka, hdx, hio, hr⟩ := acc_inst st₅.ok (show Rd k v (.acc (ps.map piece) i) from r)
      refine acc_attr (C.kin _ st₅.ok.baseIn) C I hio fun t => Calls.spliced_nil ?_
      have W := R.W.in4_1
      refine sum_start (s := { s₅ with toks := s₅.toks + 1 }) (val := fun j => psize (ps.getD j ([], []))) W (W.frame 0 s₅ s₅.heap (s₅.toks + 1) R.st (Nat.le_succ _) fun _ _ _ e => e) R.lt (fun j y hy => hy) fun s' t' hm => ?_
      rw [preSum_pieces ps ps.length (Nat.le_refl _), List.take_length]
      have g6 : Gr V k s k { s₅ with toks := s₅.toks + 1 } := ⟨g5.ext, g5.sub, g5.vol, g5.new, g5.keep, g5.there, g5.os, g5.bare, g5.tab, Nat.succ_pos _⟩
      exact hq k s' _ (gr_moved st.ok g6 hm R.fresh) (.int _ _)
end
end Mine

namespace Mine
open PySem PySem.Calls PySem.Spec PyProof.Rows PySem.W
set_option maxRecDepth 100000
set_option linter.unusedVariables false
set_option linter.unusedSimpArgs false

theorem joinL_nil : ∀ (ls : List (List Nat)), joinL [] ls = ls.flatten
  | [] => rfl
  | x :: xs => by
    have : ∀ (xs : List (List Nat)) (x : List Nat), xs.foldl (fun acc p => acc ++ [] ++ p) x = x ++ xs.flatten := fun xs => by
      induction xs with
      | nil => intro x; simp
      | cons y ys ih => intro x; rw [List.foldl_cons, ih]; simp
    show xs.foldl (fun acc p => acc ++ [] ++ p) x = _
    rw [this]; rfl
theorem ptext_flat (ps : List Piece) : (ps.map fun p => p.1 ++ p.2).flatten = ptext ps := by
  unfold ptext; rw [List.flatMap_def]
theorem sizes_nil (ls : List (List Nat)) (m : Nat) (h : ∀ l ∈ ls, l.length ≤ m) : sizes [] ls ≤ ls.length * m := by
  have := sizes_le [] m ls 0 h
  simpa [sizes] using this
theorem joinOk_S (sep : List Nat) (ls : List (List Nat)) (h : sizes sep ls ≤ sizeLine) : JoinOk (S sep) (ls.map S) = true := by
  have : ∀ (ls : List (List Nat)) (a : Nat), (ls.map S).foldl (fun x1 x2 => x1 + x2.length + (S sep).length) a = ls.foldl (fun a l => a + l.length + sep.length) a := fun ls => by
    induction ls with
    | nil => intro a; rfl
    | cons y ys ih => intro a; rw [List.map_cons, List.foldl_cons, List.foldl_cons, ih, S_length, S_length]
  unfold JoinOk
  rw [List.foldl_toArray, this]
  show (!Builtin.Str.tooLong (sizes sep ls)) = true
  unfold Builtin.Str.tooLong
  simp
  omega

section
variable {G : Gd} {K : Frag}

theorem str_act {n : Nat} (B : Base G) (N2 : Nm2 G) (Md : ModOk G) (C : Cl G K) (hf : MethAt G 74 (methStmt 5) [] (.ref 73) .none) (ps : List Piece) (i : Int) (hsm : small ps) :
    Act G (n + 1) (fun vs => call (.ref 74) vs) [.acc (ps.map piece) i] (.str (S (ptext ps))) := by
  obtain ⟨ob, qual, pm, doc, ct, hk, hd, hc⟩ := hf
  obtain ⟨te, hte⟩ := N2.empty
  have hs := sizeLine_eq
  refine fn_intro (fd := mOf (methStmt 5) qual [] .none pm (.ref 73) doc ct) (names := ["self"]) (body := bodyOf (methStmt 5)) B hk hd hc rfl rfl rfl rfl ?_ rfl (by decide) ?_ ?_ rfl rfl rfl ?_
  · intro vs hv
    match vs, hv with
    | [a], _ => rfl
  · intro x hx
    simp only [List.mem_cons, List.not_mem_nil, or_false] at hx
    rcases hx with rfl
    exact .inl rfl
  · intro L p hp; cases hp
  · intro A L
    refine ex_ret (sx_ret fun k o s Q E st hq => ?_)
    refine wpAny_Call_method rfl rfl rfl F.plainAttrs_str F.slot_str_join F.type_str_join (name_glob B rfl rfl st.gl st.ok.baseIn hte ⟨typeIs_str _ _ _, fun _ e => (nomatch e), ?_⟩)
    refine Calls.callWith_builtin rfl (Calls.evalArgs_plain (Calls.spliced_cons ?_))
    refine gen_acc (c := 73) (P := 69) B Md C st rfl rfl (.inr ⟨rfl, rfl⟩) rfl rfl (by decide) rfl rfl rfl rfl (fun x => rfl) (fun j y => ∃ u, y = .str (S ((ps.getD j ([], [])).1 ++ (ps.getD j ([], [])).2)) u) ?_ fun a s₅ fp wr g St g5 R => ?_
    · intro A' E' j t u s₂ m₂ code L' hA hj hn hfws hpart hin
      obtain ⟨h1, h2⟩ := hsm.at j
      refine wpAny_Call_method rfl rfl rfl F.plainAttrs_str F.slot_str_join F.type_str_join (name_glob B rfl rfl st.gl hin hte ⟨typeIs_str _ _ _, fun _ e => (nomatch e), ?_⟩)
      refine Calls.callWith_builtin rfl (Calls.evalArgs_plain (Calls.spliced_cons ?_))
      refine Tuple_ (k := 0) (Calls.spliced_cons (wpAny_Name (wpAny_loadName_local rfl rfl hn hfws ?_) (by decide)))
      refine Calls.spliced_cons (wpAny_Name (wpAny_loadName_local rfl rfl hn hpart ?_) (by decide))
      refine Calls.spliced_nil (wpAny_newObj_type ?_ (by show (2 : Nat) ≤ sizeLine; omega))
      refine Calls.spliced_nil ?_
      refine join_tuple (D := s₂.heap.objs.size) (items := #[.str (S (ps.getD j ([], [])).1) t, .str (S (ps.getD j ([], [])).2) u]) (ys := [S (ps.getD j ([], [])).1, S (ps.getD j ([], [])).2]) ⟨_, Heap.get?_push_size _ rfl, rfl, 0, rfl⟩ (.cons _ t (.cons _ u .nil)) (by show (S (ps.getD j ([], [])).1).length + ((S (ps.getD j ([], [])).2).length + 0) + 2 * (S []).length ≤ 16777216; rw [S_length, S_length, S_length]; show _ + (_ + 0) + 2 * 0 ≤ _; omega) fun t' tk => ?_
      refine ⟨⟨t', ?_⟩, _, _, rfl, fun b o e => Heap.get?_push_of_some _ e⟩
      have := join_S [] [(ps.getD j ([], [])).1, (ps.getD j ([], [])).2]
      rw [joinL_nil] at this
      simpa using congrArg (fun x => Value.str x t') this
    · refine Calls.spliced_nil ?_
      refine wpAny_with_toks (n := 1) g5.tk (SC.joinGen R.W.in4_2 R.ty R.st R.lt R.inf (fun j v ⟨u, e⟩ => ⟨_, u, e⟩) (fun s' lt hm hacc => ?_) (by have := hsm.1; omega))
      have hl : lt.map (·.1) = (ps.map fun p => p.1 ++ p.2).map S := by
        apply List.ext_getElem?
        intro j
        have hsz : lt.length = ps.length := by simpa [strValues] using hacc.1
        by_cases hj : j < ps.length
        · have hj' : j < lt.length := hsz ▸ hj
          obtain ⟨u, hv⟩ := hacc.2 j (.str lt[j].1 lt[j].2) (by simp [strValues, List.getElem?_eq_getElem hj'])
          injection hv with h1 _
          have e2 : ps.getD j ([], []) = ps[j] := by rw [List.getD_eq_getElem?_getD, List.getElem?_eq_getElem hj]; rfl
          rw [e2] at h1
          simp [List.getElem?_eq_getElem hj', List.getElem?_eq_getElem hj, h1]
        · rw [List.getElem?_eq_none (by simpa [hsz] using Nat.le_of_not_lt hj), List.getElem?_eq_none (by simpa using Nat.le_of_not_lt hj)]
      have hszs : sizes [] (ps.map fun p => p.1 ++ p.2) ≤ sizeLine := by
        have := sizes_nil (ps.map fun p => p.1 ++ p.2) 200 (fun l hl => by
          obtain ⟨p, hp, rfl⟩ := List.mem_map.mp hl
          have := hsm.2 p hp
          rw [List.length_append]; omega)
        rw [List.length_map] at this
        have := hsm.1
        omega
      rw [hl]
      refine ⟨joinOk_S [] _ hszs, fun t' tk htk => ?_⟩
      rw [join_S, joinL_nil, ptext_flat]
      have g6 := gr_moved st.ok g5 hm R.fresh
      exact hq k _ _ ⟨g6.ext, g6.sub, g6.vol, g6.new, g6.keep, g6.there, g6.os, g6.bare, g6.tab, htk⟩ (.str _ _)
end
end Mine

namespace Mine
open PySem PySem.Calls PySem.Spec PyProof.Rows PySem.W
set_option maxRecDepth 100000
set_option linter.unusedVariables false
set_option linter.unusedSimpArgs false

theorem Rm.in3 {A : Around} {n : Nat} (r : Rm A (n + 1)) : Rm A.in1.in1.in1 n := ⟨r.hh, by have := r.hd; show A.depth + n < _; omega, by have := r.hu; show A.units + 1 + 1 + 1 + 4 * n + 40 < _; omega⟩
theorem Rm.in2 {A : Around} {n : Nat} (r : Rm A (n + 1)) : Rm A.in1.in1 n := ⟨r.hh, by have := r.hd; show A.depth + n < _; omega, by have := r.hu; show A.units + 1 + 1 + 4 * n + 40 < _; omega⟩
theorem Rm.in1' {A : Around} {n : Nat} (r : Rm A (n + 1)) : Rm A.in1 n := ⟨r.hh, by have := r.hd; show A.depth + n < _; omega, by have := r.hu; show A.units + 1 + 4 * n + 40 < _; omega⟩

section
variable {G : Gd} {K : Frag}

theorem lenA {n : Nat} {ds : List D} {i : Int} {r : Int} (C : Cl G K) (h : Act G n (fun vs => call (.ref 67) vs) [.acc ds i] (.int r)) (h0 : 0 ≤ r) (h1 : r < 2 ^ 63) : Act G (n + 1) (fun vs => call (.builtin "len") vs) [.acc ds i] (.int r) := fun A k s vs Q E rm ok rd hq => by
  cases rd with
  | cons rv rd =>
  cases rd
  obtain ⟨a, us, m, dx, od, rfl, ha, I, hka, hdx, hio, hr⟩ := acc_inst ok rv
  refine Calls.call_function_entry kind_len plain_len entry_len (args_len1 _) ?_
  unfold Builtin.«len»
  refine wpAny_bind (m := oneArg "len" _) (wpAny_pure ?_)
  refine wpAny_bind (m := callSpecial? (.ref a) (Str.ofString "__len__")) (special_fn (C.kin _ ok.baseIn) I C.len (C.fn 67 (by simp)) ?_)
  refine h A.in1 k s [.ref a] _ _ rm.in1' ok (.cons rv .nil) fun k' s' v g rv' => ?_
  cases rv' with
  | int _ t =>
  refine wpAny_bind (wpAny_holding (wpAny_pure ?_))
  refine wpAny_bind (wpAny_letGo ?_)
  refine wpAny_ite ?_
  rw [if_neg (by omega)]
  refine wpAny_ite ?_
  rw [if_neg (by omega)]
  refine wpAny_bind (wpAny_mkInt (wpAny_pure ⟨_, rfl, ?_⟩))
  exact hq k' _ _ ⟨g.ext, g.sub, g.vol, g.new, g.keep, g.there, g.os, g.bare, g.tab, Nat.succ_pos _⟩ (.int _ _)

theorem strA {n : Nat} {ds : List D} {i : Int} {x : Str} (C : Cl G K) (h : Act G n (fun vs => call (.ref 74) vs) [.acc ds i] (.str x)) : Act G (n + 1) (fun vs => call (.type "str") vs) [.acc ds i] (.str x) := fun A k s vs Q E rm ok rd hq => by
  cases rd with
  | cons rv rd =>
  cases rd
  obtain ⟨a, us, m, dx, od, rfl, ha, I, hka, hdx, hio, hr⟩ := acc_inst ok rv
  refine callType_meetsIn (Q₁ := fun v s' => (∃ x t, v = .str x t) ∧ Q v s') (S := fun A' R s' => wpAny G.M A'.in1 (Builtin.Str.strOf (.ref a)) (fun r s' => R (.ok (.ret r)) s') (fun e s' => R (.error e) s') s') F.called_str (F.typeCall_str_1 _) (F.newCall_str_1 _) F.entry_str_new F.entry_object_init ?_ ?_ ?_
  · refine MeetsIn.of_wp fun A' R s' hs => ?_
    rw [str_new_tree]
    refine wpAny_bind (wpAny_pure ?_)
    refine wpAny_bind (wpAny_of_eq isSubtype_str_str ?_)
    exact wpAny_bind (wpAny_mono hs (fun r s' h' => wpAny_pure ⟨_, rfl, h'⟩) fun _ _ e => e)
  · show wpAny G.M A.in1.in1 (Builtin.Str.strOf (.ref a)) _ _ s
    unfold Builtin.Str.strOf
    rw [show Builtin.Str.isExactStr (.ref a) = false from rfl]
    simp only [Bool.false_eq_true, if_false]
    refine wpAny_bind (wpAny_cRoomFor (by have := rm.hu; show A.units + 1 + 1 < _; omega) ?_)
    refine wpAny_bind (m := callSpecial? (.ref a) (Str.ofString "__str__")) (special_fn (C.kin _ ok.baseIn) I C.str (C.fn 74 (by simp)) ?_)
    refine h A.in1.in1 k s [.ref a] _ _ rm.in2 ok (.cons rv .nil) fun k' s' v g rv' => ?_
    cases rv' with
    | str _ t => exact wpAny_pure ⟨⟨_, _, rfl⟩, hq k' s' _ g (.str x t)⟩
  · rintro obj s₁ ⟨⟨y, t, rfl⟩, hq'⟩
    exact ⟨typeIs_str _ _ _, F.args_object_init_2 _ _, _, object_init_meets F.called_str.init.lookup F.called_str.made (by decide), typeIs_str _ _ _, rfl, hq'⟩
end
end Mine

namespace Mine
open PySem PySem.Calls PySem.Spec PyProof.Rows PySem.W
set_option maxRecDepth 100000
set_option linter.unusedVariables false
set_option linter.unusedSimpArgs false

/-- an accumulator, its pieces told of -/
noncomputable def AccAt (k : Part) (h : Heap) (a : Addr) (ds : List D) (i : Int) : Prop := ∃ vs n dx od, h.get? a = some (accO vs n dx) ∧ Rds k vs.toList ds ∧ k dx = some od ∧ IniD od i

/-- what a tree does with an owned accumulator and further arguments -/
noncomputable def ActM (G : Gd) (n : Nat) (t : List Value → Sem Value) (ds : List D) (i : Int) (as : List D) (d : D) (ds' : List D) : Prop :=
  ∀ (A : Around) (k : Part) (s : Shared) (a : Addr) (us : List Value) (Q : Value → Shared → Prop) (E : Value → Shared → Prop), Rm A n → Ok G k s → k a = none → AccAt k s.heap a ds i → Rds k us as →
    (∀ k' s' v, Gr (a :: V) k s k' s' → k' a = none → AccAt k' s'.heap a ds' i → Rd k' v d → Q v s') → wpAny G.M A (t (.ref a :: us)) Q E s

/-- statements over an owned self; who is owned does not turn -/
noncomputable def ExM (G : Gd) (Γ : Cx) (σ : Sto) (body : List Stmt) (σ' : Sto) (d : D) : Prop :=
  ∀ k o s Q E, St G Γ σ k o s → (∀ k' s' fl, St G Γ σ' k' o s' → Grs Γ k o s k' o s' → ((∃ v, fl = .ret v ∧ Rd k' v d) ∨ (fl = .next ∧ d = .none)) → Q fl s') → wpAny G.M Γ.A (execs body Γ.env) Q E s

theorem AccAt.nf {k : Part} {h : Heap} {a : Addr} {ds : List D} {i : Int} (x : AccAt k h a ds i) : ∃ ob, h.get? a = some ob ∧ notFields ob := let ⟨_, _, _, _, e, _⟩ := x; ⟨_, e, fun vs q => by cases q⟩

theorem start_stM {G : Gd} {k : Part} {s s₁ : Shared} {A : Around} {n : Nat} {fd : FuncData} {a b : Addr} {self : Str} {names : List Str} {vs : List Value} {ds pcs : List D} {i : Int} (ok : Ok G k s) (rm : Rm A n)
    (hfn : fd.scope.kind = .function) (hgl : fd.globals = mainGlobals) (hbl : fd.builtins = builtinsNs) (hnd : (self :: names).Nodup) (r : Rds k vs ds) (hkb : k b = none) (hb : AccAt k s.heap b pcs i)
    (hcl : cellsFrom (s.heap.objs.size + 1) fd.scope.names [] = [])
    (hkind : ∀ x ∈ self :: names, fd.scope.names.lookup x = some .local)
    (x : InCallC s (callEnvC fd s.heap.objs.size a).locals (bindL (callEnvC fd s.heap.objs.size a).kindOf ((self :: names).zip (.ref b :: vs)) fun _ => none) (callEnvC fd s.heap.objs.size a).cells
        (bindC (callEnvC fd s.heap.objs.size a).kindOf ((self :: names).zip (.ref b :: vs)) fun _ => none) s₁) (ht : 0 < s₁.toks) :
    St G (cx A n fd s.heap.objs.size a) ((self, .acc pcs i) :: names.zip (ds.map .dat)) k [(self, b)] s₁ ∧ Gr V k s k s₁ := by
  obtain ⟨⟨h₁, tk, rfl⟩, hns, hkeep, hfr⟩ := x.toInCall
  have g := Gr.keeps (t := tk) ok (h' := h₁) hkeep V ht
  have ok₁ := ok.grow g
  have knone : ∀ b, s.heap.objs.size ≤ b → k b = none := fun b hb => by
    cases e : k b with
    | none => rfl
    | some o => exact absurd (Heap.lt_size (ok.sub _ _ e)) (Nat.not_lt.mpr hb)
  have hnd' : (((self :: names).zip (.ref b :: vs)).map (·.1)).Nodup := (zip_keys (self :: names) (.ref b :: vs)).nodup hnd
  obtain ⟨ob, hob, hnf⟩ := hb.nf
  have hlt := Heap.lt_size hob
  have hmu : ∀ q ∈ (cx A n fd s.heap.objs.size a).mu, s.heap.objs.size ≤ q := fun q hq => by
    rcases List.mem_cons.mp hq with rfl | hq
    · exact Nat.le_refl _
    · rw [hcl] at hq; cases hq
  refine ⟨⟨ok₁, rm, hfn, hgl, hbl, fun q hq => ?_, .head _, ⟨_, hns, fun y V' e => ?_⟩, fun p hp => ?_, by simp, fun y c hc => ⟨_, x.cell y c hc⟩, fun y z c h1 h2 => name_of_addr x.apart (mem_lookup h1) (mem_lookup h2)⟩, g⟩
  · rcases List.mem_cons.mp hq with rfl | hq
    · exact ⟨knone _ (Nat.le_refl _), Heap.Ns.obj hns⟩
    · rw [hcl] at hq; cases hq
  · rw [List.lookup_cons] at e
    by_cases hy : y = self
    · subst hy
      simp at e; subst e
      refine ⟨.ref b, .inl ⟨hkind _ (.head _), bindL_at (kd := (callEnvC fd s.heap.objs.size a).kindOf) (hkind _ (.head _)) _ _ hnd' (.head _)⟩, ?_⟩
      obtain ⟨us, m, dx, od, h1, h2, h3, h4⟩ := hb
      exact ⟨b, us, m, dx, od, rfl, by simp, hkeep _ _ h1, h2, h3, h4⟩
    · rw [show (y == self) = false from beq_eq_false_iff_ne.mpr hy] at e
      obtain ⟨v, d, rfl, hr, hm⟩ := zip_lookup r e
      have hxn : y ∈ names := (zip_keys names vs).subset (List.mem_map_of_mem (f := (·.1)) hm)
      exact ⟨v, .inl ⟨hkind _ (.tail _ hxn), bindL_at (kd := (callEnvC fd s.heap.objs.size a).kindOf) (hkind _ (.tail _ hxn)) _ _ hnd' (.tail _ hm)⟩, hr⟩
  · simp only [List.mem_cons, List.not_mem_nil, or_false] at hp
    subst hp
    exact ⟨hkb, fun hm => Nat.lt_irrefl _ (Nat.lt_of_lt_of_le hlt (hmu _ hm)), ob, hkeep _ _ hob, hnf⟩

theorem fn_introD {G : Gd} {n : Nat} {a : Addr} {ob : Obj} {fd : FuncData} {body : List Stmt} {self : Str} {names : List Str} {as dex pcs pcs' : List D} {i : Int} {d : D} {σ' : Sto} (B : Base G) (hk : G.kB a = some ob) (hdata : ob.data = .func fd)
    (hcd : ∀ h, G.kB.inH h → h.CodeRec fd.code fd.qualname) (hbody : fd.body = .stmts body) (hclo : fd.closure = []) (hgl : fd.globals = mainGlobals) (hbl : fd.builtins = builtinsNs)
    (hbind : ∀ (k : Part) (s : Shared) (b : Addr) (vs : List Value), G.kB.inH s.heap → vs.length = as.length → ∃ ex, BindsTo s fd ⟨.ref b :: vs, []⟩ ((self :: names).zip (.ref b :: (vs ++ ex))) ∧ Rds k ex dex) (hnd : (self :: names).Nodup)
    (hkind : ∀ x ∈ self :: names, fd.scope.names.lookup x = some .local) (hcl : ∀ L, cellsFrom L fd.scope.names [] = [])
    (hfn : fd.scope.kind = .function) (hco : fd.scope.isCoroutine = false) (hgen : fd.scope.isGenerator = false)
    (h : ∀ A L, ExM G (cx A n fd L a) ((self, .acc pcs i) :: names.zip ((as ++ dex).map .dat)) body σ' d) (hσ : σ'.lookup self = some (.acc pcs' i)) : ActM G (n + 1) (fun vs => call (.ref a) vs) pcs i as d pcs' := by
  intro A k s b vs Q E rm ok hkb hb r hq
  obtain ⟨ex, hbd, hex⟩ := hbind k s b vs ok.baseIn r.length
  have r' : Rds k (vs ++ ex) (as ++ dex) := r.append hex
  refine wpAny_call (codeAny_call_function rm.room (ok.baseIn _ _ hk) hdata hco hgen hbody (hcd _ ok.baseIn) (hbd _ _ _ _ ?_))
  rw [hclo]
  refine wpAny_with_toks (n := 1) ok.tk (wpAny_newFunctionEnv_cells hfn (fun x hx => ?_) fun env he s₁ x ht => ?_)
  · have : x.1 ∈ self :: names := (zip_keys (self :: names) (.ref b :: (vs ++ ex))).subset (List.mem_map_of_mem (f := (·.1)) hx)
    exact .inl (hkind x.1 this)
  · subst he
    obtain ⟨st, g⟩ := start_stM ok (rm.deeper (callEnvC fd s.heap.objs.size a)) hfn hgl hbl hnd r' hkb hb (hcl _) hkind x ht
    refine ⟨(B.lim _ ok.baseIn).keeps x.toInCall.keep, codeAny_func ?_⟩
    refine h _ _ k [(self, b)] s₁ _ _ st fun k' s' fl st' gs hfl => ?_
    have gr : Gr (b :: V) k s k' s' := (g.mono fun q hq => .tail _ hq).comp gs.gr fun q hq => by
      rcases List.mem_append.mp hq with hm | hm
      · rcases List.mem_append.mp hm with hm | hm
        · refine .inr (get?_ge ?_)
          rcases List.mem_cons.mp hm with rfl | hm
          · exact Nat.le_refl _
          · rw [hcl] at hm; cases hm
        · simp [own] at hm; exact .inl (hm ▸ .head _)
      · exact .inl (.tail _ hm)
    have hk' := (st'.ownk _ (.head _)).1
    obtain ⟨m, _, hv⟩ := st'.vars
    obtain ⟨v, _, b', us, m', dx, od, rfl, hl, h1, h2, h3, h4⟩ := hv _ _ hσ
    have hbb : b' = b := by simp at hl; exact hl.symm
    subst hbb
    have acc' : AccAt k' s'.heap b' pcs' i := ⟨us, m', dx, od, h1, h2, h3, h4⟩
    rcases hfl with ⟨v, rfl, hr⟩ | ⟨rfl, rfl⟩
    · exact hq k' s' v gr hk' acc' hr
    · exact hq k' s' .none gr hk' acc' .none

theorem fn_introM {G : Gd} {n : Nat} {a : Addr} {ob : Obj} {fd : FuncData} {body : List Stmt} {self : Str} {names : List Str} {ds pcs pcs' : List D} {i : Int} {d : D} {σ' : Sto} (B : Base G) (hk : G.kB a = some ob) (hdata : ob.data = .func fd)
    (hcd : ∀ h, G.kB.inH h → h.CodeRec fd.code fd.qualname) (hbody : fd.body = .stmts body) (hclo : fd.closure = []) (hgl : fd.globals = mainGlobals) (hbl : fd.builtins = builtinsNs)
    (hbind : ∀ vs : List Value, vs.length = names.length + 1 → bindArgs fd ⟨vs, []⟩ = pure ((self :: names).zip vs)) (hlen : ds.length = names.length) (hnd : (self :: names).Nodup)
    (hkind : ∀ x ∈ self :: names, fd.scope.names.lookup x = some .local) (hcl : ∀ L, cellsFrom L fd.scope.names [] = [])
    (hfn : fd.scope.kind = .function) (hco : fd.scope.isCoroutine = false) (hgen : fd.scope.isGenerator = false)
    (h : ∀ A L, ExM G (cx A n fd L a) ((self, .acc pcs i) :: names.zip (ds.map .dat)) body σ' d) (hσ : σ'.lookup self = some (.acc pcs' i)) : ActM G (n + 1) (fun vs => call (.ref a) vs) pcs i ds d pcs' :=
  fn_introD (as := ds) (dex := []) B hk hdata hcd hbody hclo hgl hbl (fun k s b vs _ hl => ⟨[], .of_eq (by rw [List.append_nil]; exact hbind _ (by rw [List.length_cons, hl, hlen])), .nil⟩) hnd hkind hcl hfn hco hgen (fun A L => by rw [List.append_nil]; exact h A L) hσ
end Mine

namespace Mine
open PySem PySem.Calls PySem.Spec PyProof.Rows PySem.W
set_option maxRecDepth 100000
set_option linter.unusedVariables false
set_option linter.unusedSimpArgs false

section
variable {G : Gd} {Γ : Cx} {σ σ' : Sto} {K : Frag}

/-- an owned accumulator that a name holds -/
theorem own_acc {k o s} {x : Str} {ds : List D} {i : Int} {v : Value} (st : St G Γ σ k o s) (r : VRd k o s.heap x v (.acc ds i)) :
    ∃ a vs n dx od, v = .ref a ∧ o.lookup x = some a ∧ s.heap.get? a = some (accO vs n dx) ∧ InstAt s.heap a (accO vs n dx) 100 (some od) ∧ Rds k vs.toList ds ∧ k dx = some od ∧ IniD od i ∧ k a = none := by
  obtain ⟨a, vs, n, dx, od, rfl, hl, hg, hr, hd, hi⟩ := r
  exact ⟨a, vs, n, dx, od, rfl, hl, hg, ⟨hg, rfl, rfl, st.ok.sub _ _ hd⟩, hr, hd, hi, (st.ownk _ (mem_lookup hl)).1⟩

theorem acc_write {k o s} {x : Str} {a : Addr} {vs : Array Value} {n : Nat} {dx : Addr} {od : Obj} {ds ds' : List D} {i : Int} (st : St G Γ σ k o s) (hx : σ.lookup x = some (.acc ds i)) (hl : o.lookup x = some a) (hg : s.heap.get? a = some (accO vs n dx)) (hd : k dx = some od) (hi : IniD od i) (f : Array Value → Array Value)
    (hr : Rds k (f vs).toList ds') : St G Γ (upd σ x (.acc ds' i)) k o { s with heap := s.heap.update a (Obj.mapSeq f) } ∧ Grs Γ k o s k o { s with heap := s.heap.update a (Obj.mapSeq f) } := by
  have hka := (st.ownk _ (mem_lookup hl)).1
  have hget : (s.heap.update a (Obj.mapSeq f)).get? a = some (accO (f vs) (if (f vs).size == vs.size then n else n + 1) dx) := Heap.get?_update_self _ hg rfl
  have g₂ := Gr.ofSame (t := s.toks) st.ok hka hg (fun vs e => by cases e) (Heap.SameBut.update ..) ⟨_, hget⟩ st.ok.tk
  exact st.turn (W := .acc ds' i) hx hl (fun v ⟨b, _, _, _, _, e, hb, _⟩ => by rw [hl] at hb; cases hb; exact e) ⟨_, _, _, hg, rfl⟩ g₂ hka ⟨_, hget, fun vs e => by cases e⟩ ⟨a, _, _, dx, od, rfl, hl, hget, hr, hd, hi⟩

theorem push_act {n : Nat} (B : Base G) (C : Cl G K) (hf : ∃ cd, MethAt G 45 (methStmt 1) [] cd .none) (ds : List D) (i : Int) (p q : D) (hsz : ds.length ≤ sizeLine) :
    ActM G (n + 1) (fun vs => call (.ref 45) vs) ds i [p, q] .none (ds ++ [.tup [p, q]]) := by
  obtain ⟨cd, ob, qual, pm, doc, ct, hk, hd, hc⟩ : ∃ cd, MethAt G 45 (methStmt 1) [] cd .none := hf
  refine fn_introM (fd := mOf (methStmt 1) qual [] .none pm cd doc ct) (self := "self") (names := ["fws", "string"]) (body := bodyOf (methStmt 1)) (σ' := upd (("self", .acc ds i) :: List.zip ["fws", "string"] (List.map Vl.dat [p, q])) "self" (.acc (ds ++ [.tup [p, q]]) i)) B hk hd hc rfl rfl rfl rfl ?_ rfl (by decide) ?_ (fun L => rfl) rfl rfl rfl ?_ (by rw [lookup_upd, if_pos rfl])
  · intro vs hv
    match vs, hv with
    | [a, b, c], _ => rfl
  · intro x hx
    simp only [List.mem_cons, List.not_mem_nil, or_false] at hx
    rcases hx with rfl | rfl | rfl <;> rfl
  · intro A L k o s Q E st hq
    refine wpAny_execs_cons (wpAny_Expr_any (MethodCall_ (wpAny_Name (load_var st (V := .acc ds i) rfl (fun v r => ?_) (by decide)) (by decide)) rfl) rfl rfl)
    obtain ⟨a, vs, m, dx, od, rfl, hl, hg, I, hr, hdx, hi, hka⟩ := own_acc st r
    refine acc_method (C.kin _ st.ok.baseIn) C I hi C.append (f := .builtin "list.append") (tf := .type "method_descriptor") (Looks.of_pure F.type_list_append) (.inr rfl) (by decide) ?_
    refine Calls.callWith_builtin rfl (Calls.evalArgs_plain (Calls.spliced_cons ?_))
    have he : ∀ p1 p2 n' p3, Ev G (cx A n (mOf (methStmt 1) qual [] .none pm cd doc ct) L 45) (("self", .acc ds i) :: List.zip ["fws", "string"] (List.map Vl.dat [p, q])) (.Tuple [.Name "fws" p1, .Name "string" p2] n' p3) (.tup [p, q]) := fun p1 p2 n' p3 =>
      ev_tuple (.cons (fun _ _ => rfl) (ev_name rfl) (.cons (fun _ _ => rfl) (ev_name rfl) .nil)) (by have := sizeLine_eq; show 2 ≤ _; omega)
    refine he _ _ 0 _ k o s _ E st fun k₁ s₁ u g₁ r₁ => Calls.spliced_nil ?_
    have st₁ := st.grow g₁
    have hg₁ := own_keeps st g₁ _ (mem_lookup hl) _ hg
    have I₁ : InstAt s₁.heap a (accO vs m dx) 100 (some od) := ⟨hg₁, rfl, rfl, st₁.ok.sub _ _ (g₁.ext _ _ hdx)⟩
    refine acc_entry (prog := G.prog) (w := G.w) (n := "append") (C.kin _ st₁.ok.baseIn) I₁ C.mro F.slot_list_append (.inr (by decide +kernel)) (by decide +kernel) F.entry_list_append (F.args_list_append_2 _ _) ?_
    have hvz : vs.size = ds.length := by rw [← Array.length_toList, hr.length]
    obtain ⟨st₂, gs⟩ := acc_write (ds' := ds ++ [.tup [p, q]]) st₁ (x := "self") (ds := ds) rfl hl hg₁ (g₁.ext _ _ hdx) hi (·.push u) (by rw [Array.toList_push]; exact (hr.mono g₁.ext).append (.cons r₁ .nil))
    show wpAny _ _ (updateSeq a (·.push u) >>= fun _ => ret .none) _ _ s₁
    refine wpAny_bind (wpAny_updateSeq hg₁ rfl (wpAny_pure ⟨.none, rfl, ?_⟩) (by rw [hvz]; exact hsz) (by rw [Array.size_push, hvz]; omega))
    exact wpAny_execs_nil (hq _ _ _ st₂ ((Grs.ofV g₁).trans gs) (.inr ⟨rfl, rfl⟩))
end
end Mine

namespace Mine
open PySem PySem.Calls PySem.Spec PyProof.Rows PySem.W
set_option maxRecDepth 100000
set_option linter.unusedVariables false
set_option linter.unusedSimpArgs false

section
variable {prog : Program} {w : World} {A : Around} {E : Value → Shared → Prop} {s : Shared} {K : Frag} {a : Addr} {ox : Obj} {od : Option Obj}

/-- no deque: a key is taken as it is -/
theorem acc_key {M : Model} {k : Value} {name : Str} {Q : Value → Shared → Prop} (X : K.In s.heap) (I : InstAt s.heap a ox 100 od) (hd : mroIn K 100 (.type "collections.deque") = some false) (h : Q k s) : wpAny M A (sequenceKey (.ref a) k name) Q E s := by
  unfold sequenceKey
  refine wpAny_bind (I.type.here ?_)
  show wpAny _ _ (seqItemTypes.anyM (fun n => isSubtype (.ref 100) (.type n)) >>= _) _ _ _
  have e : (seqItemTypes.anyM (fun n => isSubtype (.ref 100) (.type n)) : Sem Bool) = (isSubtype (.ref 100) (.type "collections.deque") >>= fun b => match b with | true => pure true | false => pure false) := rfl
  rw [e]
  refine wpAny_bind (wpAny_bind ((looks_mroIn X hd).here (wpAny_pure ?_)))
  exact wpAny_pure h

/-- a special method that list gives -/
theorem acc_callB {name : Str} {id n : String} {B : Builtin} {rest : List Value} {Q : Option Value → Shared → Prop} (X : K.In s.heap) (I : InstAt s.heap a ox 100 od) (hm : mroIn K 100 (.type "list") = some true) (hf : findIn K (.ref 100) name = some (some (.builtin id))) (slot : Slot "list" name id)
    (hk : builtinKind id = some .slot ∨ builtinKind id = some .method) (hs : splitId id = some ("list", n)) (entry : entryFor table id = some B) (ha : argsOk id ⟨.ref a :: rest, []⟩)
    (hc : wpAny (model prog w) A.in1 (B ⟨.ref a :: rest, []⟩) (fun fin s' => ∃ v, fin = .done (.ret v) ∧ Q (some v) s') E s) : wpAny (model prog w) A (callSpecial? (.ref a) name rest) Q E s := by
  unfold callSpecial?
  refine wpAny_bind ((acc_special X I hf).here ?_)
  refine wpAny_holding ?_
  rw [slot.bind]
  refine wpAny_bind (wpAny_pure ?_)
  refine wpAny_bind (acc_entry X I hm slot hk hs entry ha (wpAny_mono hc (fun fin s' h' => ?_) fun _ _ e => e))
  obtain ⟨v, rfl, hv⟩ := h'
  exact ⟨v, rfl, wpAny_pure hv⟩

theorem sub_slice {sl : Addr} {os : Obj} {Q : Option Int → Shared → Prop} (hT : s.TypeIs (.ref sl) "slice") (h : Q none s) : wpAny (model prog w) A (Builtin.List.listSubscript? (.ref sl)) Q E s := by
  unfold Builtin.List.listSubscript?
  refine wpAny_bind (wpAny_specialOf hT slice_no_index ?_)
  simp only [Option.isNone_none, if_true]
  exact wpAny_pure h
theorem slice_parts {sl : Addr} {vl vu : Value} {lo hi : Option Int} {Q : Value × Value × Value → Shared → Prop} (hs : s.heap.IsSliceOf sl vl vu .none) (pl : IsPart vl lo) (pu : IsPart vu hi) (h : Q (rawPart lo, rawPart hi, rawPart none) s) : wpAny (model prog w) A (Builtin.List.listSliceParts (.ref sl)) Q E s := by
  obtain ⟨os, hos, hcs, hds⟩ := id hs
  rw [listSliceParts_eq]
  refine wpAny_bind (wpAny_field hos hds (x := .none) rfl (wpAny_bind (wpAny_listPart .none ?_)))
  rw [if_neg (by exact Bool.false_ne_true)]
  refine wpAny_bind (wpAny_field hos hds (x := vl) rfl (wpAny_bind (wpAny_listPart pl ?_)))
  exact wpAny_bind (wpAny_field hos hds (x := vu) rfl (wpAny_bind (wpAny_listPart pu (wpAny_pure h))))

theorem acc_getslice {sl : Addr} {vl vu : Value} {lo hi : Option Int} {items : Array Value} {n : Nat} {Q : Value → Shared → Prop} (X : K.In s.heap) (I : InstAt s.heap a ox 100 od) (hdat : ox.data = .seq items n) (hm : mroIn K 100 (.type "list") = some true) (hq : mroIn K 100 (.type "collections.deque") = some false)
    (hf : findIn K (.ref 100) "__getitem__" = some (some (.builtin "list.__getitem__"))) (hs : s.heap.IsSliceOf sl vl vu .none) (pl : IsPart vl lo) (pu : IsPart vu hi) (hsz : items.size ≤ sizeLine)
    (h : Q (.ref s.heap.objs.size) { s with heap := s.heap.push (seqO "list" (slicePick items lo hi none) 0) }) : wpAny (model prog w) A (getItem (.ref a) (.ref sl)) Q E s := by
  obtain ⟨os, hos, hcs, hds⟩ := id hs
  have hTs : s.TypeIs (.ref sl) "slice" := ⟨os, hos, hcs⟩
  unfold getItem
  refine wpAny_holding (wpAny_bind (acc_key X I hq ?_))
  refine wpAny_bind (acc_callB (n := "__getitem__") X I hm hf F.slot_list_getitem (.inr (by decide +kernel)) (by decide +kernel) F.entry_list_getitem (F.args_list_getitem_2 _ _) ?_)
  show wpAny _ _ (Builtin.List.listSubscript? (.ref sl) >>= _) _ _ s
  refine wpAny_bind (sub_slice (os := os) hTs ?_)
  show wpAny _ _ (typeOf (.ref sl) >>= _) _ _ s
  refine wpAny_bind (wpAny_typeOf hTs ?_)
  rw [if_neg (by decide)]
  refine wpAny_bind (slice_parts hs pl pu ?_)
  show wpAny _ _ (Builtin.List.listItems (.ref a) >>= _) _ _ s
  refine wpAny_bind ?_
  unfold Builtin.List.listItems
  refine wpAny_bind (wpAny_seqItems I.at_ hdat (wpAny_pure ?_))
  refine wpAny_bind (wpAny_of_eq (sliceIndices_raw lo hi none items.size (by simp)) ?_)
  exact wpAny_bind (wpAny_newObj_type (wpAny_pure ⟨_, rfl, wpAny_pure h⟩) (Nat.le_trans (slicePick_size_le items lo hi none) hsz))

/-- a[i:] = [] -/
theorem acc_setslice {sl b : Addr} {vl : Value} {i : Nat} {items : Array Value} {n n' : Nat} {Q : Unit → Shared → Prop} (X : K.In s.heap) (I : InstAt s.heap a ox 100 od) (hdat : ox.data = .seq items n) (hm : mroIn K 100 (.type "list") = some true) (hq : mroIn K 100 (.type "collections.deque") = some false)
    (hf : findIn K (.ref 100) "__setitem__" = some (some (.builtin "list.__setitem__"))) (hs : s.heap.IsSliceOf sl vl .none .none) (pl : IsPart vl (some (i : Int))) (hb : s.heap.get? b = some (seqO "list" #[] n')) (hsz : items.size ≤ sizeLine)
    (h : ∀ f : Array Value → Array Value, f items = (items.toList.take i).toArray → Q () { s with heap := s.heap.update a (Obj.mapSeq f) }) (hi : i ≤ items.size) : wpAny (model prog w) A (setItem (.ref a) (.ref sl) (.ref b)) Q E s := by
  obtain ⟨os, hos, hcs, hds⟩ := id hs
  have hTs : s.TypeIs (.ref sl) "slice" := ⟨os, hos, hcs⟩
  have hab : a ≠ b := fun q => by
    have h1 := I.at_
    rw [q, hb] at h1
    have h2 := I.cls
    rw [← Option.some.inj h1] at h2; cases h2
  unfold setItem
  refine wpAny_holding (wpAny_bind (acc_key X I hq ?_))
  refine wpAny_bind (acc_callB (n := "__setitem__") X I hm hf F.slot_list_setitem (.inl (by decide +kernel)) (by decide +kernel) F.entry_list_setitem (F.args_list_setitem_3 _ _ _) ?_)
  show wpAny _ _ (Builtin.List.listSubscript? (.ref sl) >>= _) _ _ s
  refine wpAny_bind (sub_slice (os := os) hTs ?_)
  show wpAny _ _ (typeOf (.ref sl) >>= _) _ _ s
  refine wpAny_bind (wpAny_typeOf hTs ?_)
  rw [if_neg (by decide)]
  refine wpAny_bind (slice_parts hs pl .none ?_)
  dsimp only
  rw [show Builtin.List.listSameRef (.ref a) (.ref b) = false from beq_eq_false_iff_ne.mpr hab]
  simp only [Bool.false_eq_true, if_false]
  refine wpAny_bind ?_
  unfold Builtin.List.listAllItems
  refine wpAny_bind (wpAny_typeOf ⟨_, hb, rfl⟩ ?_)
  simp only [beq_self_eq_true, Bool.true_or, if_true]
  unfold Builtin.List.listItems
  refine wpAny_bind (wpAny_seqItems hb rfl (wpAny_pure ?_))
  refine wpAny_bind (wpAny_bind (wpAny_seqItems I.at_ hdat (wpAny_pure ?_)))
  refine wpAny_bind (wpAny_of_eq (sliceIndices_raw (some (i : Int)) none none items.size (by simp)) ?_)
  rw [sliceBounds_plain]
  dsimp only
  rw [if_pos (by decide)]
  refine wpAny_bind (wpAny_rule ?_)
  rw [if_neg (show ¬ (Builtin.List.listTooLong (items.size + (#[] : Array Value).size) = true) by simp [Builtin.List.listTooLong]; omega)]
  have e1 : (Option.elim (some (i : Int)) 0 (clipAt items.size)) = i := by
    show clipAt items.size (i : Int) = i
    rw [clipAt_nat]; omega
  have e2 : (Option.elim (none : Option Int) items.size (clipAt items.size)) = items.size := rfl
  rw [e1, e2]
  have e3 : (max (i : Int) (items.size : Int)).toNat = items.size := by omega
  rw [e3]
  have e4 : ∀ xs : Array Value, xs.size = items.size → xs.extract 0 ((i : Int)).toNat ++ #[] ++ xs.extract items.size xs.size = (xs.toList.take i).toArray := fun xs hx => by
    apply Array.toList_inj.mp
    simp [hx]
  refine wpAny_bind (m := updateSeq a _) (wpAny_updateSeq I.at_ hdat ?_ hsz (by rw [e4 _ rfl, List.size_toArray, List.length_take]; rw [Array.length_toList]; omega))
  refine wpAny_bind (wpAny_letGo (wpAny_pure ⟨_, rfl, wpAny_pure ?_⟩))
  exact h _ (e4 _ rfl)
end
end Mine

namespace Mine
open PySem PySem.Calls PySem.Spec PyProof.Rows PySem.W
set_option maxRecDepth 100000
set_option linter.unusedVariables false
set_option linter.unusedSimpArgs false

section
variable {G : Gd} {Γ : Cx} {σ σ' : Sto} {K : Frag}

theorem optV_isPart {i : Option Int} {v : Value} (h : optV i v) : IsPart v i := by
  cases i with
  | none => cases h; exact .none
  | some i => obtain ⟨t, rfl⟩ := h; exact .int i t

theorem ev_sliceA {value : Expr} {lo hi : Option Expr} {p pos : Pos} {l u : Option Int} {ds : List D} {i : Int} (C : Cl G K) (hv : Ev G Γ σ value (.acc ds i)) (hl : Part? G Γ σ lo l) (hu : Part? G Γ σ hi u) (hsz : ds.length ≤ sizeLine)
    : Ev G Γ σ (.Subscript value (.Slice lo hi none p) pos) (.list (cut ds l u)) := fun k ow s Q E st hq => by
  rw [eval_Subscript]
  refine wpAny_bind (hv k ow s _ E st fun k₁ s₁ v₁ g₁ r₁ => wpAny_bind (wpAny_holding (wpAny_Slice (part_ev hl (st.grow g₁) fun k₂ s₂ vl g₂ rl => part_ev hu (st.grow (g₁.trans g₂)) fun k₃ s₃ vu g₃ ru =>
    wpAny_pure (wpAny_bind (wpAny_standAt ?_))))))
  have G₄ := (g₁.trans g₂).trans g₃
  have ok₄ := st.ok.grow G₄
  have g₅ := Gr.keeps (t := s₃.toks) ok₄ (h' := s₃.heap.push { cls := .type "slice", data := .fields #[vl, vu, .none] }) (fun b o e => Heap.get?_push_of_some _ e) V
  have ok₅ := ok₄.grow g₅
  have r₅ : Rd k₃ v₁ (.acc ds i) := r₁.mono (g₂.ext.trans g₃.ext)
  obtain ⟨a, vs, m, dx, od, rfl, ha, I, hka, hdx, hio, hr⟩ := acc_inst ok₅ r₅
  have X := C.kin _ ok₅.baseIn
  have fin : wpAny G.M Γ.A (getItem (.ref a) (.ref s₃.heap.objs.size)) (fun r s₆ => wpAny G.M Γ.A (letTemporaryGo value (.ref a) r >>= fun _ => pure r) Q E s₆) E { s₃ with heap := s₃.heap.push { cls := .type "slice", data := .fields #[vl, vu, .none] } } := by
    refine acc_getslice (prog := G.prog) (w := G.w) X I rfl C.mro C.deq C.getitem (Heap.IsSliceOf.new ..) (optV_isPart rl) (optV_isPart ru) (by rw [List.size_toArray, hr.length]; exact hsz) ?_
    have e : slicePick vs.toArray l u none = (cut vs l u).toArray := slicePick_plain vs.toArray l u
    have hr' : Rds k₃ (cut vs l u) (cut ds l u) := by
      unfold cut; rw [hr.length]; exact (hr.drop _).take _
    rw [e]
    have g₆ := Gr.keepsPut (t := s₃.toks) ok₅ (h' := (s₃.heap.push { cls := .type "slice", data := .fields #[vl, vu, .none] }).push (seqO "list" (cut vs l u).toArray 0)) (fun b o e => Heap.get?_push_of_some _ e) (get?_size _) (Heap.get?_push_size _ rfl) V
    refine wpAny_bind (wpAny_letTemporaryGo (wpAny_pure ?_))
    exact hq _ _ _ ((G₄.trans g₅).trans g₆) (.list (Part.put_self ..) (hr'.mono g₆.ext))
  refine wpAny_bind ?_
  unfold getitemInPython
  refine wpAny_bind ((acc_special X I C.getitem).here (wpAny_pure ?_))
  exact wpAny_bind (wpAny_operating fin)

theorem pop_act {n : Nat} (B : Base G) (C : Cl G K) (hf : ∃ cd, MethAt G 53 (methStmt 2) [] cd (.ref 46)) (h46 : ∃ t, G.kB 46 = some (seqO "tuple" #[.int 0 t] 0)) (ds : List D) (i : Int) (j : Nat) (as : List D) (has : as = [.int j] ∨ (as = [] ∧ j = 0)) (hj : j ≤ ds.length) (hno : ∀ d ∈ ds, NoAcc d) (hsz : ds.length ≤ sizeLine) :
    ActM G (n + 1) (fun vs => call (.ref 53) vs) ds i as (.list (ds.drop j)) (ds.take j) := by
  obtain ⟨cd, ob, qual, pm, doc, ct, hk, hd, hc⟩ := hf
  obtain ⟨t0, ht0⟩ := h46
  obtain ⟨dex, hdex, hbind⟩ : ∃ dex, as ++ dex = [.int j] ∧ ∀ (k : Part) (s : Shared) (b : Addr) (vs : List Value), G.kB.inH s.heap → vs.length = as.length → ∃ ex, BindsTo s (mOf (methStmt 2) qual [] (.ref 46) pm cd doc ct) ⟨.ref b :: vs, []⟩ ((["self", "i"] : List Str).zip (.ref b :: (vs ++ ex))) ∧ Rds k ex dex := by
    rcases has with rfl | ⟨rfl, rfl⟩
    · refine ⟨[], rfl, fun k s b vs hin hl => ?_⟩
      match vs, hl with
      | [v], _ => exact ⟨[], .of_defaults (T := 46) rfl (hin _ _ ht0) rfl rfl rfl, .nil⟩
    · refine ⟨[.int 0], rfl, fun k s b vs hin hl => ?_⟩
      match vs, hl with
      | [], _ => exact ⟨[.int 0 t0], .of_defaults (T := 46) rfl (hin _ _ ht0) rfl rfl rfl, .cons (.int 0 t0) .nil⟩
  refine fn_introD (fd := mOf (methStmt 2) qual [] (.ref 46) pm cd doc ct) (self := "self") (names := ["i"]) (dex := dex) (body := bodyOf (methStmt 2)) (σ' := upd (upd (("self", .acc ds i) :: List.zip ["i"] (List.map Vl.dat [.int j])) "popped" (.dat (.list (ds.drop j)))) "self" (.acc (ds.take j) i)) B hk hd hc rfl rfl rfl rfl hbind (by decide) ?_ (fun L => rfl) rfl rfl rfl ?_ (by rw [lookup_upd, if_pos rfl])
  · intro x hx
    simp only [List.mem_cons, List.not_mem_nil, or_false] at hx
    rcases hx with rfl | rfl <;> rfl
  · intro A L
    rw [hdex]
    intro k o s Q E st hq
    have hs := sizeLine_eq
    have hl1 : ∀ p1 p2 p3 p4, Ev G (cx A n (mOf (methStmt 2) qual [] (.ref 46) pm cd doc ct) L 53) (("self", .acc ds i) :: List.zip ["i"] (List.map Vl.dat [.int j])) (.Subscript (.Name "self" p1) (.Slice (some (.Name "i" p2)) none none p3) p4) (.list (ds.drop j)) := fun p1 p2 p3 p4 => by
      have e : cut ds (some (j : Int)) none = ds.drop j := cut_from ds j
      rw [← e]
      exact ev_borrowA (x := "self") rfl (ev_sliceA C (ev_name rfl) (.some (ev_name rfl)) .none hsz) (.list fun d hd => hno d (List.mem_of_mem_drop (by rw [e] at hd; exact hd)))
    refine wpAny_execs_cons (wpAny_Assign_Name (hl1 _ _ _ _ k o s _ E st fun k₁ s₁ v₁ g₁ r₁ => ?_) rfl)
    have st₁ := st.grow g₁
    refine store_dat (x := "popped") (.loc rfl) st₁ r₁ fun s₂ st₂ gs₂ => ?_
    refine wpAny_execs_cons (wpAny_Assign_Subscript ?_ rfl)
    have he : ∀ p, Ev G (cx A n (mOf (methStmt 2) qual [] (.ref 46) pm cd doc ct) L 53) (upd (("self", .acc ds i) :: List.zip ["i"] (List.map Vl.dat [.int j])) "popped" (.dat (.list (ds.drop j)))) (.List [] p) (.list []) := fun p => ev_list .nil (Nat.zero_le _)
    refine he _ k₁ o s₂ _ E st₂ fun k₃ s₃ v₃ g₃ r₃ => ?_
    have st₃ := st₂.grow g₃
    refine wpAny_Name (load_var st₃ (x := "self") (V := .acc ds i) rfl (fun v r => ?_) (by decide)) (by decide)
    have hi : ∀ p, Part? G (cx A n (mOf (methStmt 2) qual [] (.ref 46) pm cd doc ct) L 53) (upd (("self", .acc ds i) :: List.zip ["i"] (List.map Vl.dat [.int j])) "popped" (.dat (.list (ds.drop j)))) (some (.Name "i" p)) (some (j : Int)) := fun p => .some (ev_name rfl)
    refine wpAny_Slice (part_ev (hi _) st₃ fun k₄ s₄ vl g₄ rl => wpAny_pure (wpAny_pure ?_))
    have st₄ := st₃.grow g₄
    have g₅ := Gr.keeps (t := s₄.toks) st₄.ok (h' := s₄.heap.push { cls := .type "slice", data := .fields #[vl, .none, .none] }) (fun b o e => Heap.get?_push_of_some _ e) V st₄.ok.tk
    have st₅ := st₄.grow g₅
    have r₅ := r.turn (k' := k₄) (o' := o) (h' := s₄.heap.push { cls := .type "slice", data := .fields #[vl, .none, .none] }) g₄.ext rfl (fun p hp ob e => own_keeps st₄ g₅ p hp ob (own_keeps st₃ g₄ p hp ob e))
    obtain ⟨a, vs, m, dx, od, rfl, hla, hg, I, hr, hdx, hio, hka⟩ := own_acc st₅ r₅
    cases r₃ with
    | @list b us n' _ hb hbr =>
    cases hbr
    have hvz : vs.size = ds.length := by rw [← Array.length_toList, hr.length]
    refine acc_setslice (prog := G.prog) (w := G.w) (i := j) (C.kin _ st₅.ok.baseIn) I rfl C.mro C.deq C.setitem (Heap.IsSliceOf.new ..) (optV_isPart rl) (st₅.ok.sub _ _ (g₄.ext _ _ hb)) (by rw [hvz]; exact hsz) (fun f hf => ?_) (by rw [hvz]; exact hj)
    obtain ⟨st₆, gs₆⟩ := acc_write (x := "self") (ds := ds) (ds' := ds.take j) st₅ rfl hla hg hdx hio f (by rw [hf]; exact hr.take j)
    refine wpAny_execs_cons (wpAny_Return_some (wpAny_Name (load_var st₆ (x := "popped") (V := .dat (.list (ds.drop j))) rfl (fun v r => ?_) (by decide)) (by decide)))
    refine hq k₄ _ _ st₆ ?_ (.inl ⟨v, rfl, r⟩)
    exact (((((Grs.ofV g₁).trans gs₂).trans (.ofV g₃)).trans (.ofV g₄)).trans (.ofV g₅)).trans gs₆
end
end Mine

namespace Mine
open PySem PySem.Calls PySem.Spec PyProof.Rows PySem.W
set_option maxRecDepth 100000
set_option linter.unusedVariables false
set_option linter.unusedSimpArgs false

theorem slot_wd_get : Slot "wrapper_descriptor" "__get__" "wrapper_descriptor.__get__" := .of (owner := "wrapper_descriptor") (n := "__get__") (by rw [typeLookup_type, builtinLookup_eq_fast]; kernel_rfl) (by decide +kernel) (by decide +kernel) (by decide +kernel)
  (by first | exact .inl (by decide +kernel) | exact .inr (by decide +kernel)) (by rw [isSubtype_type]; kernel_rfl)
theorem entry_wd_get : entryFor table "wrapper_descriptor.__get__" = some Builtin.«wrapper_descriptor.__get__» := entryFor_of_tree (by kernel_rfl)
theorem args_wd_get (a b c : Value) : argsOk "wrapper_descriptor.__get__" ⟨[a, b, c], []⟩ := by unfold argsOk; kernel_rfl
theorem type_list_len' : typeOf (.builtin "list.__len__") = pure (.type "wrapper_descriptor") := by show builtinType _ = _; rw [builtinType_eq_fast]; kernel_rfl
theorem type_list_init' : typeOf (.builtin "list.__init__") = pure (.type "wrapper_descriptor") := by show builtinType _ = _; rw [builtinType_eq_fast]; kernel_rfl

noncomputable abbrev mwObj (id : String) (x : Addr) : Obj := { cls := .type "method-wrapper", data := .fields #[.builtin id, .ref x] }

section
variable {prog : Program} {w : World} {M : Model} {A : Around} {E : Value → Shared → Prop} {h : Heap} {g : Array GenState} {d : Drawn} {t : Nat} {os : OsState} {K : Frag}

theorem wd_get {id : String} {x C : Addr} {ox : Obj} {od : Option Obj} {Q : Fin → Shared → Prop} (hid : ".".intercalate (id.cutAt '.').dropLast = "list") (X : K.In h) (I : InstAt h x ox 100 od) (hm : mroIn K 100 (.type "list") = some true)
    (hq : Q (.done (.ret (.ref h.objs.size))) ⟨h.push (mwObj id x), g, d, t, os⟩) :
    wpAny (model prog w) A (Builtin.«wrapper_descriptor.__get__» ⟨[.builtin id, .ref x, .ref C], []⟩) Q E ⟨h, g, d, t, os⟩ := by
  have hs := looks_mroIn (M := model prog w) X hm
  unfold Builtin.«wrapper_descriptor.__get__»
  repeat (first
    | (with_reducible refine wpAny_loadPart_at I.at_ ?_; rw [I.cls])
    | (with_reducible refine Looks.at hs ?_)
    | (rw [hid])
    | wp_step
    | dsimp only
    | (with_reducible refine wpAny_newObj_type ?_ (by size_fits)))
  all_goals first | exact hq | skip

theorem super_ga_b {so D x C : Addr} {id : String} {ox : Obj} {od : Option Obj} {l₀ l : List Value} {name : Str} {tk : Tok} {Q : Fin → Shared → Prop}
    (hso : h.get? so = some { cls := .type "super", dict := none, data := .fields #[.ref D, .ref x, .ref C], slots := #[] }) (hno : Looks (model prog w) h (opaqueClassAbove (.ref C)) none)
    (hC : Looks (model prog w) h (mroOf (.ref C)) l₀) (hl : (l₀.dropWhile (· != .ref D)).drop 1 = l) (X : K.In h)
    (hf : alongIn K name l = some (some (.builtin id))) (hfo : typeOf (.builtin id) = pure (.type "wrapper_descriptor")) (hxC : x ≠ C) (hn : (name == ("__class__" : Str)) = false)
    (hid : ".".intercalate (id.cutAt '.').dropLast = "list") (I : InstAt h x ox 100 od) (hm : mroIn K 100 (.type "list") = some true)
    (hq : Q (.done (.ret (.ref h.objs.size))) ⟨h.push (mwObj id x), g, d, t, os⟩) :
    wpAny (model prog w) A (Builtin.«super.__getattribute__» ⟨[.ref so, .str name tk], []⟩) Q E ⟨h, g, d, t, os⟩ := by
  have hlk := slot_wd_get.lookup
  have hne : (Value.ref x == Value.ref C) = false := by simp [hxC]
  have hdt : ({ cls := .type "super", dict := none, data := .fields #[.ref D, .ref x, .ref C], slots := #[] } : Obj).data = .fields #[.ref D, .ref x, .ref C] := rfl
  have f0 : (#[.ref D, .ref x, .ref C] : Array Value)[0]? = some (.ref D) := rfl
  have f1 : (#[.ref D, .ref x, .ref C] : Array Value)[1]? = some (.ref x) := rfl
  have f2 : (#[.ref D, .ref x, .ref C] : Array Value)[2]? = some (.ref C) := rfl
  have hTf : (⟨h, g, d, t, os⟩ : Shared).TypeIs (.builtin id) "wrapper_descriptor" := hfo
  unfold Builtin.«super.__getattribute__»
  repeat (first
    | (with_reducible refine wpAny_field hso hdt f0 ?_) | (with_reducible refine wpAny_field hso hdt f1 ?_) | (with_reducible refine wpAny_field hso hdt f2 ?_)
    | (with_reducible refine ks_wpAny_notOpaque hno ?_)
    | (with_reducible refine Looks.at hC ?_; rw [hl])
    | (refine ks_forIn_along X (fun _ _ => rfl) rfl ?_ hf)
    | (with_reducible refine wpAny_typeOf hTf ?_)
    | (with_reducible refine wpAny_call_entry slot_wd_get hTf entry_wd_get ?_ (args_wd_get _ _ _))
    | (with_reducible refine wd_get hid X I hm ?_)
    | (with_reducible refine ⟨_, rfl, ?_⟩)
    | (simp only [hn, hne, hfo, Bool.or_false, Bool.false_eq_true, if_false])
    | wp_step
    | dsimp only)
  all_goals first | exact hq | skip
end
end Mine

namespace Mine
open PySem PySem.Calls PySem.Spec PyProof.Rows PySem.W
set_option maxRecDepth 100000
set_option linter.unusedVariables false
set_option linter.unusedSimpArgs false

theorem ckb_len (x : Value) : checkBoundCall "list.__len__" ⟨[x], []⟩ = pure () := by first | kernel_rfl | rfl
theorem ckb_init (x : Value) : checkBoundCall "list.__init__" ⟨[x], []⟩ = pure () := by first | kernel_rfl | rfl
theorem quiet_len (as : Args) : (Code.builtin "list.__len__" as).quiet = true := Code.quiet_builtin _ (by decide +kernel)
theorem quiet_init (as : Args) : (Code.builtin "list.__init__" as).quiet = true := Code.quiet_builtin _ (by decide +kernel)

section
variable {prog : Program} {w : World} {A : Around} {E : Value → Shared → Prop} {K : Frag} {G : Gd}

theorem super_method {h : Heap} {g : Array GenState} {d : Drawn} {t : Nat} {os : OsState} {so x : Addr} {id : String} {ox : Obj} {od : Option Obj} {name : Str} {pl : Sem Bool} {Q : Value × List Value → Shared → Prop} (X : K.In h) (C : Cl G K)
    (hso : h.get? so = some (ks_superObj 100 x 100)) (hm : ks_superIn K 100 100 name = some (some (.builtin id))) (hfo : typeOf (.builtin id) = pure (.type "wrapper_descriptor")) (hn : (name == ("__class__" : Str)) = false)
    (hid : ".".intercalate (id.cutAt '.').dropLast = "list") (I : InstAt h x ox 100 od)
    (hq : Q (.ref h.objs.size, []) ⟨h.push (mwObj id x), g, d, t + 1, os⟩) : wpAny (model prog w) A (getMethod (.ref so) name pl) Q E ⟨h, g, d, t, os⟩ := by
  cases hc : clsIn K 100 with
  | none => unfold ks_superIn at hm; rw [hc] at hm; cases hm
  | some cd =>
  unfold ks_superIn at hm
  rw [hc] at hm
  have hlk := F.ks_slot_super_ga.lookup
  have hcan := F.ks_canon_super_ga
  have hT : ∀ t', (⟨h, g, d, t', os⟩ : Shared).TypeIs (.ref so) "super" := fun _ => ⟨_, hso, rfl⟩
  have hC : Looks (model prog w) h (mroOf (.ref 100)) cd.mro := fun A Q E s k q => wpAny_bind ((looks_clsIn X hc) A _ E s k (wpAny_pure q))
  unfold getMethod
  refine wpAny_bind (wpAny_specialOf (hT _) hlk ?_)
  show wpAny _ _ (if (Manifest.canonical "super.__getattribute__" != "object.__getattribute__") = true then _ else _) _ _ _
  rw [if_pos hcan]
  unfold getAttr getAttrBy
  refine wpAny_bind (wpAny_bind (wpAny_mkText (wpAny_holding (wpAny_bind (wpAny_typeOf (hT _) (wpAny_bind (wpAny_of_eq hlk ?_)))))))
  show wpAny _ _ (getAttrByItsOwn (.ref so) (.str name t) (.type "super") (.builtin "super.__getattribute__") true false) _ _ _
  unfold getAttrByItsOwn hookBefore callGetattribute boundAndCalled
  refine wpAny_bind (wpAny_of_eq (show (if onTheHeap (.type "super") then typeLookup (.type "super") "__getattr__" else pure none) = pure none from rfl) ?_)
  refine wpAny_bind (wpAny_attempt (wpAny_holding ?_))
  show wpAny _ _ (bindSpecial (.builtin "super.__getattribute__") (.ref so) >>= _) _ _ _
  refine wpAny_bind (wpAny_of_eq (F.ks_slot_super_ga.bind _) ?_)
  refine wpAny_mono (Q := fun v s' => v = .ref h.objs.size ∧ s' = ⟨h.push (mwObj id x), g, d, t + 1, os⟩) (E := fun _ _ => False)
    (wpAny_call_entry F.ks_slot_super_ga (hT _) F.ks_entry_super_ga (super_ga_b hso (looks_opaque X C.opq) hC rfl X hm hfo (ks_ne X I hc) hn hid I C.mro ⟨_, rfl, rfl, rfl⟩) (F.ks_gaArgs_super _ _)) (fun v s' hv => ?_) fun _ _ z => z.elim
  obtain ⟨rfl, rfl⟩ := hv
  exact wpAny_pure (wpAny_pure hq)

/-- a call of a method-wrapper -/
theorem mw_call {s : Shared} {q x : Addr} {id : String} {B : Builtin} {pos : Pos} {Q : Value → Shared → Prop} (hq : s.heap.get? q = some (mwObj id x)) (hc : checkBoundCall id ⟨[.ref x], []⟩ = pure ()) (hqu : (Code.builtin id ⟨[.ref x], []⟩).quiet = true) (hb : entryFor table id = some B)
    (hp : plainId id = true) (h : wpAny (model prog w) A.in1 (B ⟨[.ref x], []⟩) (fun fin s' => ∃ v, fin = .done (.ret v) ∧ Q v s') E s) : wpAny (model prog w) A (callWith pos (.ref q) [] [] []) Q E s := by
  unfold callWith
  refine wpAny_bind (wpAny_holding (PySem.evalArgs_none (wpAny_bind (wpAny_standAt ?_))))
  have tail : ∀ {t : Sem Value}, wpAny (model prog w) A t Q E s → wpAny (model prog w) A (t >>= fun r => holding [r] point >>= fun _ => pure r) Q E s :=
    fun ht => wpAny_bind (wpAny_mono ht (fun r s₂ hr => wpAny_bind (wpAny_holding (wpAny_point (wpAny_pure hr)))) fun _ _ x => x)
  refine wpAny_bind (m := keeperOf (.ref q)) ?_
  unfold keeperOf
  refine wpAny_bind (wpAny_load hq ?_)
  refine wpAny_pure ?_
  refine tail ?_
  refine wpAny_call (codeAny_of_tree ?_)
  show wpAny _ A.in1 (callAny (.ref q) ⟨[], []⟩) _ _ s
  simp only [callAny]
  refine wpAny_bind (wpAny_load hq ?_)
  simp only [mwObj, show (Value.type "method-wrapper" == Value.type "method" || Value.type "method-wrapper" == Value.type "builtin_function_or_method" || Value.type "method-wrapper" == Value.type "method-wrapper") = true by decide, if_true]
  show wpAny _ _ (if (Value.type "method-wrapper" != Value.type "method") = true then (checkBoundCall id ⟨[.ref x], []⟩ >>= fun _ => again (.builtin id ⟨[.ref x], []⟩)) else again (.call (.builtin id) ⟨[.ref x], []⟩)) _ _ _
  rw [if_pos (by decide)]
  refine wpAny_bind (wpAny_of_eq hc ?_)
  refine wpAny_bind (wpAny_pure (wpAny_pure ⟨hqu, codeAny_builtin hb ?_⟩))
  rw [Around.under_plainId hp _]
  refine wpAny_mono h (fun fin s' h' => ?_) fun _ _ e => e
  obtain ⟨v, rfl, hv⟩ := h'
  exact hv
end
end Mine

namespace Mine
open PySem PySem.Calls PySem.Spec PyProof.Rows PySem.W
set_option maxRecDepth 100000
set_option linter.unusedVariables false
set_option linter.unusedSimpArgs false

theorem inst_keeps {h h' : Heap} {x C : Addr} {ox : Obj} {od : Option Obj} (I : InstAt h x ox C od) (k : ∀ b o, h.get? b = some o → h'.get? b = some o) : InstAt h' x ox C od :=
  ⟨k _ _ I.at_, I.cls, I.no, by
    have := I.dict
    revert this
    cases ox.dict <;> cases od <;> intro this
    all_goals first | exact this | exact k _ _ this⟩

/-- what super() needs of the base -/
structure Sup (G : Gd) : Prop where
  top : (G.prog.main.scope.names.lookup ("super" : Str)).isSome = false
  s0 : G.mg "super" = none
  s1 : G.mb "super" = some (.type "super")
  cell : ∃ oc, G.kB 25 = some oc ∧ oc.data = .cell (some (.ref 100))
  cls : ∃ oD cdD, G.kB 100 = some oD ∧ oD.data = .cls cdD
  code : ∀ c, c = 37 ∨ c = 96 → ∃ oc vs file tf, G.kB c = some oc ∧ oc.data = .fields vs ∧ vs[2]? = some (.str file tf) ∧ ((G.prog.main.file : Str) == file) = true

section
variable {G : Gd} {K : Frag}

theorem super_at {A : Around} {E : Value → Shared → Prop} {s : Shared} {env : Env} {body : List Stmt} {p0 p1 : Pos} {attr : Str} {whole : Sem Value} {f cc x : Addr} {of ox : Obj} {odx : Option Obj} {fd : FuncData} {ar : Arg} {m : Str → Option Value} {Q : Value → Shared → Prop}
    (S : Sup G) (B : Base G) (C : Cl G K) (hin : G.kB.inH s.heap) (hk : env.scope.kind = .function) (hks : env.kindOf "super" = some .globalImplicit) (hkc : env.kindOf "__class__" = some .free) (hat : (attr == ("__class__" : Str)) = false)
    (hcl : env.cells.lookup ("__class__" : Str) = some 25) (hg : env.globals = mainGlobals) (hb : env.builtins = builtinsNs) (hfu : env.func = some f) (hf : G.kB f = some of) (hfd : of.data = .func fd) (hp : (fd.params.posonlyargs ++ fd.params.args).head? = some ar) (hco : env.code = .ref cc) (hcc : cc = 37 ∨ cc = 96)
    (hka : env.kindOf ar.arg = some .local) (hns : s.heap.Ns env.locals m) (hv : m ar.arg = some (.ref x)) (I : InstAt s.heap x ox 100 odx)
    (h : ∀ h', h'.get? s.heap.objs.size = some (ks_superObj 100 x 100) → (∀ b o, s.heap.get? b = some o → h'.get? b = some o) → Q (.ref s.heap.objs.size) { s with heap := h' }) :
    PySem.wpAt G.M A (.func body env) (attributeBase (.Call (.Name "super" p0) [] [] p1) attr env whole) Q E s := by
  obtain ⟨oc, vs, file, tf, h1, h2, h3, h4⟩ := S.code cc hcc
  obtain ⟨oD, cdD, h5, h6⟩ := S.cls
  obtain ⟨oce, h7, h8⟩ := S.cell
  obtain ⟨hh, g, d, t, os⟩ := s
  refine ks_wpAt_super_base hks hkc hat hfu (hin _ _ hf) hfd hp hco (hin _ _ h1) h2 h3 h4 S.top ?_
  refine ks_loadName_global hk hks (loadGlobal_builtin (env := env) (by rw [hg]; exact B.ns _ hin) S.s0 (by rw [hb]; exact B.bs _ hin) S.s1 ⟨rfl, ?_⟩)
  refine wpAny_loadName_free hk hkc hcl ⟨_, hin _ _ h7, h8⟩ ?_
  refine wpAny_loadName_local hk hka hns hv ?_
  refine ks_wpAny_isType_cls (hin _ _ h5) h6 ⟨rfl, ?_⟩
  refine ks_wpAny_call_super (hin _ _ h5) h6 I.at_ I.cls (fun c e => ?_) (looks_mroIn (C.kin _ hin) C.selfm) (fun h' e k => h h' e k)
  have := I.no
  unfold notCls at this
  rw [e] at this
  exact Bool.noConfusion this

theorem count_act {n : Nat} (S : Sup G) (B : Base G) (C : Cl G K) (hf : MethAt G 97 (methStmt 8) [("__class__", 25)] (.ref 96) .none) (ds : List D) (i : Int) (hsm : ds.length < 2 ^ 63) :
    Act G (n + 1) (fun vs => call (.ref 97) vs) [.acc ds i] (.int ds.length) := by
  obtain ⟨ob, qual, pm, doc, ct, hk, hd, hc⟩ := hf
  intro A k s vs Q E rm ok r hq
  cases r with
  | cons r1 r =>
  cases r
  obtain ⟨a, us, m, dx, od, rfl, ha, I, hka, hdx, hio, hr⟩ := acc_inst ok r1
  refine wpAny_call (ks_codeAny_call_defAt (fd := mOf (methStmt 8) qual [("__class__", 25)] .none pm (.ref 96) doc ct) (body := bodyOf (methStmt 8)) (binds := [("self", .ref a)]) rm.room (ok.baseIn _ _ hk) hd (B.lim _ ok.baseIn) (hc _ ok.baseIn) rfl (.of_eq rfl) ?_ ?_ (fun h₁ hns hk₁ => ?_) rfl rfl rfl)
  · show ∀ x ∈ [(("self" : Str), NameKind.local), ("__class__", .free), ("super", .globalImplicit)], x.2 ≠ .cell
    decide
  · intro x hx
    simp only [List.mem_cons, List.not_mem_nil, or_false] at hx
    subst hx; rfl
  have hin₁ : G.kB.inH h₁ := fun b o e => hk₁ _ _ (ok.baseIn b o e)
  have I₁ := inst_keeps I hk₁
  refine ks_wpAt_execs_cons (ks_wpAt_Return_some (ks_wpAt_MethodCall ?_ rfl))
  refine super_at (x := a) (f := 97) (cc := 96) (ar := _) (m := _) S B C hin₁ rfl rfl rfl (by decide) rfl rfl rfl rfl hk hd rfl rfl (.inr rfl) rfl hns rfl I₁ fun h₂ hso hk₂ => ?_
  have hin₂ : G.kB.inH h₂ := fun b o e => hk₂ _ _ (hin₁ b o e)
  have I₂ := inst_keeps I₁ hk₂
  refine super_method (id := "list.__len__") (C.kin _ hin₂) C hso C.supLen type_list_len' (by decide) (by decide +kernel) I₂ ?_
  have hk₃ : ∀ b o, h₂.get? b = some o → (h₂.push (mwObj "list.__len__" a)).get? b = some o := fun b o e => Heap.get?_push_of_some _ e
  refine mw_call (id := "list.__len__") (x := a) (Heap.get?_push_size _ rfl) (ckb_len _) (quiet_len _) F.entry_list_len (by decide +kernel) ?_
  have I₃ := inst_keeps I₂ hk₃
  unfold Builtin.«list.__len__»
  refine wpAny_bind (wpAny_pure ?_)
  show wpAny _ _ (seqSize a >>= fun n => retInt n) _ _ _
  unfold seqSize
  refine wpAny_bind (wpAny_bind (wpAny_loadPart I₃.at_ (wpAny_pure ?_)))
  refine wpAny_bind (wpAny_mkInt (wpAny_pure ⟨_, rfl, ?_⟩))
  have e : us.toArray.size = ds.length := by rw [List.size_toArray, hr.length]
  rw [e]
  exact hq k _ _ (Gr.keeps ok (fun b o e => hk₃ _ _ (hk₂ _ _ (hk₁ _ _ e))) V) (.int _ _)
end
end Mine

namespace Mine
open PySem PySem.Calls PySem.Spec PyProof.Rows PySem.W
set_option maxRecDepth 100000
set_option linter.unusedVariables false
set_option linter.unusedSimpArgs false

theorem ln_kind : builtinKind "list.__new__" = some .builtinFn := by decide +kernel
theorem ln_split : splitId "list.__new__" = some ("list", "__new__") := by decide +kernel
theorem ln_args (a b : Value) : argsOk "list.__new__" ⟨[a, b], []⟩ := by unfold argsOk; kernel_rfl

/-- the class, as its making sees it -/
structure MadeL (M : Model) (h : Heap) : Prop where
  obj : ∃ oc od cd sl, h.get? 100 = some ⟨oc, od, .cls cd, sl⟩ ∧ cd.abstract = false ∧ cd.hasDel = false ∧ cd.mro.isEmpty = false
  mro : Looks M h (mroOf (.ref 100)) [.ref 100, .type "list", .type "object"]
  isT : Looks M h (isType (.ref 100)) true
  made : Looks M h (Bind.madeBy (.ref 100)) (some "list.__new__")
  base : Looks M h (Bind.staticBase (.ref 100)) (.ref 100)
  self : Looks M h (isSubtype (.ref 100) (.ref 100)) true
  top : Looks M h (isSubtype (.ref 100) (.type "list")) true
  call : Looks M h (specialOf (.ref 100) "__call__") (some (.builtin "type.__call__"))
  typ : Looks M h (isInstance (.ref 100) (.type "type")) true

section
variable {G : Gd} {K : Frag}
theorem madeL_of {M : Model} {h : Heap} (C : Cl G K) (X : K.In h) : MadeL M h := by
  obtain ⟨oc, od, cd, sl, ho, e1, e2, e3, e4⟩ := C.crt
  have hc : clsIn K 100 = some cd := by unfold clsIn; rw [ho]
  have hm : Looks M h (mroOf (.ref 100)) cd.mro := (looks_clsIn X hc).andThen .now
  have made : Looks M h (Bind.madeBy (.ref 100)) (some "list.__new__") := by
    intro A Q E s k q
    unfold Bind.madeBy
    refine wpAny_bind (hm A _ E s k ?_)
    rw [e3, List.forIn_cons]
    refine wpAny_bind (wpAny_bind (wpAny_bind (wpAny_bind (wpAny_loadPart (k _ _ (X _ _ ho)) (wpAny_pure ?_)))))
    dsimp only
    rw [← Array.getElem?_toList, e4]
    exact wpAny_pure (wpAny_pure (wpAny_pure q))
  refine ⟨⟨oc, od, cd, sl, X _ _ ho, e1, e2, by rw [e3]; rfl⟩, by rw [← e3]; exact hm, ?_, made, ?_, looks_mroIn X C.selfm, looks_mroIn X C.mro, looks_specialIn X C.call, looks_instIn X C.typ⟩
  · intro A Q E s k q
    obtain ⟨hh, g, d, t, os⟩ := s
    exact ks_wpAny_isType_cls (k _ _ (X _ _ ho)) rfl q
  · intro A Q E s k q
    unfold Bind.staticBase
    refine wpAny_bind (hm A _ E s k ?_)
    rw [e3, List.forIn_cons]
    exact wpAny_bind (wpAny_bind (wpAny_bind (made A _ E s k (wpAny_pure (wpAny_pure (wpAny_pure q))))))

variable {prog : Program} {w : World} {A : Around} {R : Result → Shared → Prop} {h : Heap} {g : Array GenState} {d : Drawn} {t : Nat} {os : OsState}

theorem new_acc {v : Value} (Y : MadeL (model prog w) h)
    (hq : R (.ok (.ret (.ref (h.objs.size + 1)))) ⟨(h.push emptyDict).push (accO #[] 0 h.objs.size), g, d, t, os⟩) :
    codeAny (model prog w) A (.call (.builtin "list.__new__") ⟨[.ref 100, v], []⟩) R ⟨h, g, d, t, os⟩ := by
  obtain ⟨⟨oc, od, cd, sl, hC, e1, e2, e4⟩, mro, isT, made, base, self, top, call, typ⟩ := Y
  refine codeAny_call_builtin_code (plainId_quiet F.plain_list_new _) ?_
  have ha := ln_args (.ref 100) v
  simp only [checkBuiltinCall, ln_kind, ln_split]
  repeat (first | simp only [bne_self_eq_false, Bool.false_eq_true, if_false, Bool.not_true] | lk)
  refine codeAny_builtin_stack F.entry_list_new rfl fun p st => ?_
  rw [Around.under_plainId F.plain_list_new _]
  have hown := owner_list_new
  simp only [hown]
  have hn : typeHasDict (.ref 100) = true := rfl
  repeat (first | simp only [bne_self_eq_false, Bool.false_eq_true, if_false, Bool.not_true, hn] | lk)
  show wpAny _ _ (load 100) _ _ _
  refine wpAny_load (Heap.get?_push_of_some _ (Heap.get?_push_of_some _ hC)) ?_
  dsimp only
  rw [e2]
  refine wpAny_pure ?_
  rw [if_neg (by decide)]
  refine wpAny_pure (wpAny_pure ?_)
  show R _ _
  rw [Heap.size_push]
  exact hq

/-- a call of the class, down to its __init__ -/
theorem make_acc {v : Value} (C : Cl G K) (X : K.In h)
    (hq : codeAny (model prog w) (A.under (.builtin "type.__call__" ⟨[.ref 100, v], []⟩)) (.call (.ref 38) ⟨[.ref (h.objs.size + 1), v], []⟩) (InitBack (h.objs.size + 1) R) ⟨(h.push emptyDict).push (accO #[] 0 h.objs.size), g, d, t, os⟩) :
    codeAny (model prog w) A (.call (.ref 100) ⟨[v], []⟩) R ⟨h, g, d, t, os⟩ := by
  have Y : MadeL (model prog w) h := madeL_of C X
  have Y' := Y
  have hi : Looks (model prog w) h (typeLookup (.ref 100) "__init__") (some (.ref 38)) := looks_findIn X C.init
  have hb : ∀ self, Looks (model prog w) h (bindSpecial (.ref 38) self) (.ref 38, [self]) := fun self => bind_fn X self (C.fn 38 (by simp))
  obtain ⟨⟨oc, od, cd, sl, hC, e1, e2, e4⟩, mro, isT, made, base, self, top, call, typ⟩ := Y
  refine codeAny_of_tree ?_
  show wpAny _ _ (callAny (.ref 100) _) _ _ _
  refine nd_load hC ?_
  show wpAny _ _ (callAny.viaDunder (.ref 100) _) _ _ _
  unfold callAny.viaDunder
  refine wpAny_bind (call.at ?_)
  dsimp only
  rw [tc_bind]
  refine wpAny_bind (wpAny_pure (wpAny_bind (wpAny_pure ?_)))
  refine wpAny_pure (a := Fin.again (.call (.builtin "type.__call__") ⟨[.ref 100, v], []⟩)) (And.intro rfl ?_)
  refine codeAny_call_builtin_at (Code.quiet_builtin _ (by decide +kernel)) entry_typeCall (check_slot tc_kind tc_split typ (tc_args _ _ _) ?_)
  unfold Builtin.«type.__call__»
  repeat (first | simp only [e4, Bool.false_eq_true, if_false, List.isEmpty_cons] | with_reducible refine wpAny_call ?_ | lk)
  refine new_acc Y' ?_
  have k : ∀ b o, h.get? b = some o → ((h.push emptyDict).push (accO #[] 0 h.objs.size)).get? b = some o := fun b o e => Heap.get?_push_of_some _ (Heap.get?_push_of_some _ e)
  have hx : ((h.push emptyDict).push (accO #[] 0 h.objs.size)).get? (h.objs.size + 1) = some (accO #[] 0 h.objs.size) := by heap_get
  have t1 : Looks (model prog w) ((h.push emptyDict).push (accO #[] 0 h.objs.size)) (typeOf (.ref (h.objs.size + 1))) (.ref 100) := (Looks.ld hx).andThen .now
  have s1 := self.keeps k
  have i1 := hi.keeps k
  have b1 := (hb (.ref (h.objs.size + 1))).keeps k
  unfold isInstance callSpecial? specialOf
  repeat (first | with_reducible refine wpAny_call ?_ | lk)
  refine codeAny_mono hq fun r s' z => ?_
  rcases r with e | (v | _ | _ | _) <;> first | exact z | exact z.elim | skip
  obtain ⟨rfl, z⟩ := z
  exact wpAny_pure (wpAny_pure z)
end
end Mine

namespace Mine
open PySem PySem.Calls PySem.Spec PyProof.Rows PySem.W
open Builtin Builtin.ObjectAttr
set_option maxRecDepth 100000
set_option linter.unusedVariables false
set_option linter.unusedSimpArgs false

theorem refuse_list (self : Value) : refuseLoop self "__setattr__" [.type "list", .type "object"] = pure () := by kernel_rfl

section
variable {G : Gd} {K : Frag} {prog : Program} {w : World} {A : Around} {R : Result → Shared → Prop} {s : Shared}

noncomputable abbrev iniName : Str := "_initial_size"
noncomputable abbrev iniDict (hash : Int) (tk : Tok) (v : Value) : Obj := { cls := .type "dict", data := .dict #[⟨hash, .str iniName tk, v⟩] 1 }
theorem put_empty (hash : Int) (tk : Tok) (v : Value) : Obj.putName iniName hash (.str iniName tk) v emptyDict = iniDict hash tk v := by
  rw [Obj.putName_eq]
  unfold Obj.putNameByArray
  simp

theorem iniD_of {hash : Int} {tk u : Tok} {i : Int} : IniD (iniDict hash tk (.int i u)) i := by
  refine ⟨u, _, _, rfl, fun e he => ?_, fun x => ?_⟩
  · have : e = ⟨hash, .str iniName tk, .int i u⟩ := by simpa using he
    subst this; exact ⟨_, _, rfl⟩
  · show nsFind _ x = if x = iniName then some (.int i u) else none
    unfold nsFind findBy
    by_cases hx : x = iniName
    · subst hx; rw [if_pos rfl]; simp [Value.isStr]
    · rw [if_neg hx]
      have : (Value.str iniName tk).isStr x = false := by
        unfold Value.isStr
        simp
        intro q; exact hx q.symm
      simp [this]

theorem store_ini {x dx : Addr} {tk : Tok} {v : Value} (C : Cl G K) (X : K.In s.heap) (I : InstAt s.heap x (accO #[] 0 dx) 100 (some emptyDict))
    (h : ∀ hash t', R (.ok (.ret .none)) { s with heap := s.heap.update dx (Obj.putName iniName hash (.str iniName t') v), toks := s.toks + 1 }) :
    codeAny (model prog w) A (.call (.builtin "object.__setattr__") ⟨[.ref x, .str iniName tk, v], []⟩) R s := by
  have SF := PySem.F.store_object
  obtain ⟨oc, od, cd, sl, ho, e1, e2, e3, e4⟩ := C.crt
  have hc : clsIn K 100 = some cd := by unfold clsIn; rw [ho]
  obtain ⟨cd', hc', hdict⟩ := C.cls
  rw [hc] at hc'; cases hc'
  have sub : Looks (model prog w) s.heap (isInstance (.ref x) (.type "object")) true := I.type.andThen (looks_mroIn X (by unfold mroIn; rw [hc, Option.bind_some, e3]; rfl))
  refine codeAny_call_builtin SF.slot.plain SF.entry (@check_slot (model prog w) _ _ s "object.__setattr__" "object" "__setattr__" (.ref x) [.str iniName tk, v] [] _ SF.kind SF.split sub (SF.args (.ref x) (.str iniName tk) v) ?_)
  have hm : Looks (model prog w) s.heap (mroOf (.ref 100)) cd.mro := (looks_clsIn X hc).andThen .now
  rw [osa_eq, refuse_eq]
  refine wpAny_bind (wpAny_bind (I.type.here (wpAny_bind (hm.here ?_))))
  rw [e3, refuseLoop_ref, refuse_list]
  refine wpAny_pure (wpAny_bind (I.type.here (wpAny_bind ((looks_findIn X C.size0).here (wpAny_bind (wpAny_pure ?_))))))
  dsimp only
  obtain ⟨hx, hcl, hn, hdx⟩ := I
  have D : s.heap.get? dx = some emptyDict := hdx
  refine wpAny_bind (wpAny_pure (wpAny_bind (wpAny_bind (wpAny_loadPart hx (wpAny_bind ((looks_clsIn X hc).here ?_))))))
  rw [hdict]
  refine wpAny_pure (a := some dx) (wpAny_bind (wpAny_pure (wpAny_bind ?_)))
  unfold nsSet
  refine wpAny_bind (wpAny_bind (wpAny_askSetting (wpAny_pure (wpAny_bind (wpAny_mkText (wpAny_bind (wpAny_loadPart D ?_)))))))
  dsimp only
  rw [aRefKeyMayBeTheName_at]
  rw [if_neg (by simp)]
  refine wpAny_updatePart D ?_
  refine wpAny_bind (wpAny_lookBehind (o := iniDict (PyData.keyHash w.params iniName) s.toks v) ?_ ?_ ?_)
  · rw [← put_empty]
    exact Heap.get?_update_self _ D (by rw [put_empty]; rfl)
  · exact pastItsLine_dict (by rw [sizeLine_eq]; show 1 ≤ _; omega)
  · exact wpAny_pure (h _ _)
end
end Mine

namespace Mine
open PySem PySem.Calls PySem.Spec PyProof.Rows PySem.W
open Builtin Builtin.ObjectAttr
set_option maxRecDepth 100000
set_option linter.unusedVariables false
set_option linter.unusedSimpArgs false

theorem under_make (A : Around) (v : Value) : (A.under (.builtin "type.__call__" ⟨[.ref 100, v], []⟩)).handled = A.handled ∧ (A.under (.builtin "type.__call__" ⟨[.ref 100, v], []⟩)).depth = A.depth + 1 ∧ (A.under (.builtin "type.__call__" ⟨[.ref 100, v], []⟩)).units = A.units + 1 := by
  have w1 : (Code.builtin "type.__call__" ⟨[.ref 100, v], []⟩).weight = 1 := by kernel_rfl
  have w2 : (Code.builtin "type.__call__" ⟨[.ref 100, v], []⟩).cUnits = 1 := by kernel_rfl
  refine ⟨rfl, ?_, ?_⟩
  · show A.depth + _ = _; rw [w1]
  · show A.units + _ = _; rw [w2]

section
variable {G : Gd} {K : Frag}

theorem make_act {n : Nat} {A : Around} {E : Value → Shared → Prop} {k : Part} {s : Shared} {i : Int} {t : Tok} {Q : Value → Shared → Prop} (S : Sup G) (B : Base G) (C : Cl G K) (hf : MethAt G 38 (methStmt 0) [("__class__", 25)] (.ref 37) (.ref 30)) (h30 : ∃ t, G.kB 30 = some (seqO "tuple" #[.int 0 t] 0))
    (rm : Rm A (n + 2)) (ok : Ok G k s)
    (hq : ∀ s' a dx od, Gr V k s (k.put dx od) s' → s.heap.get? a = none → (k.put dx od) a = none → s'.heap.get? a = some (accO #[] 0 dx) → IniD od i → Q (.ref a) s') : wpAny G.M A (call (.ref 100) [.int i t]) Q E s := by
  obtain ⟨ob, qual, pm, doc, ct, hk, hd, hc⟩ := hf
  obtain ⟨t30, h30⟩ := h30
  obtain ⟨u1, u2, u3⟩ := under_make A (.int i t)
  have hin : G.kB.inH s.heap := ok.baseIn
  obtain ⟨hh, g, d, tk, os⟩ := s
  refine wpAny_call (make_acc C (C.kin _ hin) ?_)
  have k0 : ∀ b o, hh.get? b = some o → ((hh.push emptyDict).push (accO #[] 0 hh.objs.size)).get? b = some o := fun b o e => Heap.get?_push_of_some _ (Heap.get?_push_of_some _ e)
  have hin0 : G.kB.inH ((hh.push emptyDict).push (accO #[] 0 hh.objs.size)) := fun b o e => k0 _ _ (hin b o e)
  have ha0 : ((hh.push emptyDict).push (accO #[] 0 hh.objs.size)).get? (hh.objs.size + 1) = some (accO #[] 0 hh.objs.size) := by heap_get
  have hd0 : ((hh.push emptyDict).push (accO #[] 0 hh.objs.size)).get? hh.objs.size = some emptyDict := Heap.get?_push_of_some _ (Heap.get?_push_size _ rfl)
  refine ks_codeAny_call_defAt (fd := mOf (methStmt 0) qual [("__class__", 25)] (.ref 30) pm (.ref 37) doc ct) (body := bodyOf (methStmt 0)) (binds := [("self", .ref (hh.objs.size + 1)), ("initial_size", .int i t)]) ?_ (hin0 _ _ hk) hd (B.lim _ hin0) (hc _ hin0) rfl (.of_defaults (T := 30) rfl (hin0 _ _ h30) rfl rfl rfl) ?_ ?_ (fun h₁ hns hk₁ => ?_) rfl rfl rfl
  · rw [u2]; have := rm.hd; omega
  · show ∀ x ∈ [((("self" : Str), NameKind.local) : Str × NameKind), ("initial_size", .local), ("__class__", .free), ("super", .globalImplicit)], x.2 ≠ .cell
    decide
  · intro x hx
    simp only [List.mem_cons, List.not_mem_nil, or_false] at hx
    rcases hx with rfl | rfl <;> rfl
  have hin₁ : G.kB.inH h₁ := fun b o e => hk₁ _ _ (hin0 b o e)
  have ha₁ := hk₁ _ _ ha0
  have hd₁ := hk₁ _ _ hd0
  have I₁ : InstAt h₁ (hh.objs.size + 1) (accO #[] 0 hh.objs.size) 100 (some emptyDict) := ⟨ha₁, rfl, rfl, hd₁⟩
  refine ks_wpAt_execs_cons (ks_wpAt_Assign_Attr ?_ rfl)
  refine wpAt_of_wpAny (wpAny_Name (wpAny_loadName_local rfl rfl hns rfl ?_) (by decide))
  refine wpAny_Name (wpAny_loadName_local rfl rfl hns rfl ?_) (by decide)
  refine set_plain (C.kin _ hin₁) I₁ C.setat ?_
  refine store_ini (s := ⟨h₁, _, _, _, _⟩) C (C.kin _ hin₁) I₁ fun hash t' => ?_
  have hne : hh.objs.size + 1 ≠ hh.objs.size := Nat.succ_ne_self _
  have hd₂ : (h₁.update hh.objs.size (Obj.putName iniName hash (.str iniName t') (.int i t))).get? hh.objs.size = some (iniDict hash t' (.int i t)) := by
    rw [← put_empty]
    exact Heap.get?_update_self _ hd₁ (by rw [put_empty]; rfl)
  have k₂ : ∀ b o, b ≠ hh.objs.size → h₁.get? b = some o → (h₁.update hh.objs.size (Obj.putName iniName hash (.str iniName t') (.int i t))).get? b = some o := fun b o hb e => ((Heap.SameBut.update ..).2 b hb).trans e
  have hlt : ∀ b o, hh.get? b = some o → b ≠ hh.objs.size ∧ b ≠ hh.objs.size + 1 := fun b o e => ⟨Nat.ne_of_lt (Heap.lt_size e), Nat.ne_of_lt (Nat.lt_succ_of_lt (Heap.lt_size e))⟩
  have k₂' : ∀ b o, hh.get? b = some o → (h₁.update hh.objs.size (Obj.putName iniName hash (.str iniName t') (.int i t))).get? b = some o := fun b o e => k₂ b o (hlt b o e).1 (hk₁ _ _ (k0 _ _ e))
  have hin₂ : G.kB.inH (h₁.update hh.objs.size (Obj.putName iniName hash (.str iniName t') (.int i t))) := fun b o e => k₂' _ _ (hin b o e)
  have ha₂ := k₂ _ _ hne ha₁
  have I₂ : InstAt (h₁.update hh.objs.size (Obj.putName iniName hash (.str iniName t') (.int i t))) (hh.objs.size + 1) (accO #[] 0 hh.objs.size) 100 (some (iniDict hash t' (.int i t))) := ⟨ha₂, rfl, rfl, hd₂⟩
  refine ks_wpAt_execs_cons (ks_wpAt_Expr_any (ks_wpAt_MethodCall ?_ rfl) rfl rfl)
  have hL : ((hh.push emptyDict).push (accO #[] 0 hh.objs.size)).objs.size ≠ hh.objs.size := by rw [Heap.size_push, Heap.size_push]; omega
  refine super_at (s := ⟨h₁.update hh.objs.size (Obj.putName iniName hash (.str iniName t') (.int i t)), _, _, _, _⟩) (x := hh.objs.size + 1) (f := 38) (cc := 37) (ar := _) (m := _) S B C hin₂ rfl rfl rfl (by decide) rfl rfl rfl rfl hk hd rfl rfl (.inl rfl) rfl (hns.sameBut (Heap.SameBut.update ..) hL) rfl I₂ fun h₃ hso hk₃ => ?_
  have hin₃ : G.kB.inH h₃ := fun b o e => hk₃ _ _ (hin₂ b o e)
  have I₃ := inst_keeps I₂ hk₃
  refine super_method (id := "list.__init__") (C.kin _ hin₃) C hso C.supInit type_list_init' (by decide) (by decide +kernel) I₃ ?_
  have hk₄ : ∀ b o, h₃.get? b = some o → (h₃.push (mwObj "list.__init__" (hh.objs.size + 1))).get? b = some o := fun b o e => Heap.get?_push_of_some _ e
  refine mw_call (id := "list.__init__") (x := hh.objs.size + 1) (Heap.get?_push_size _ rfl) (ckb_init _) (quiet_init _) F.entry_list_init (by decide +kernel) ?_
  have I₄ := inst_keeps I₃ hk₄
  unfold Builtin.«list.__init__»
  show wpAny _ _ (Builtin.List.listItems (.ref (hh.objs.size + 1)) >>= _) _ _ _
  refine wpAny_bind ?_
  unfold Builtin.List.listItems
  refine wpAny_bind (wpAny_seqItems I₄.at_ rfl (wpAny_pure ?_))
  refine wpAny_bind (m := updateSeq (hh.objs.size + 1) _) (wpAny_updateSeq I₄.at_ rfl ?_ (Nat.zero_le _) (Nat.zero_le _))
  refine wpAny_bind (wpAny_letGo (wpAny_pure ⟨.none, rfl, ?_⟩))
  refine wpAt_of_wpAny (wpAny_execs_nil ⟨rfl, ?_⟩)
  have ha₅ : ((h₃.push (mwObj "list.__init__" (hh.objs.size + 1))).update (hh.objs.size + 1) (Obj.mapSeq fun _ => #[])).get? (hh.objs.size + 1) = some (accO #[] 0 hh.objs.size) := Heap.get?_update_self _ I₄.at_ rfl
  have k₅ : ∀ b o, b ≠ hh.objs.size + 1 → (h₃.push (mwObj "list.__init__" (hh.objs.size + 1))).get? b = some o → ((h₃.push (mwObj "list.__init__" (hh.objs.size + 1))).update (hh.objs.size + 1) (Obj.mapSeq fun _ => #[])).get? b = some o := fun b o hb e => ((Heap.SameBut.update ..).2 b hb).trans e
  have hd₅ := k₅ _ _ (Ne.symm hne) (hk₄ _ _ (hk₃ _ _ hd₂))
  have none1 : hh.get? (hh.objs.size + 1) = none := get?_ge (Nat.le_succ _)
  have kn : k (hh.objs.size + 1) = none := by
    cases e : k (hh.objs.size + 1) with
    | none => rfl
    | some o' => have := ok.sub _ _ e; rw [show (Shared.heap ⟨hh, g, d, tk, os⟩) = hh from rfl, none1] at this; cases this
  refine hq _ (hh.objs.size + 1) hh.objs.size (iniDict hash t' (.int i t)) (Gr.keepsPut ok (fun b o e => k₅ b o (hlt b o e).2 (hk₄ _ _ (hk₃ _ _ (k₂' b o e)))) (get?_size _) hd₅ V (Nat.succ_pos _)) none1 ?_ ha₅ iniD_of
  unfold Part.put
  rw [if_neg hne]; exact kn
end
end Mine

namespace Mine
open PySem PySem.Calls PySem.Spec PyProof.Rows PySem.W
set_option maxRecDepth 100000
set_option linter.unusedVariables false
set_option linter.unusedSimpArgs false

section
variable {G : Gd} {Γ : Cx} {σ σ' : Sto} {K : Frag}

/-- a call of the class itself -/
theorem callWith_cls {A : Around} {E : Value → Shared → Prop} {s : Shared} {pos : Pos} {args : List (Bool × Sem Value)} {Q : Value → Shared → Prop} (hplain : args.any (·.1) = false)
    (h : wpAny G.M A (evalArgs (.ref 100) true args []) (fun a s₁ => MadeL G.M s₁.heap ∧ wpAny G.M A (call (.ref 100) a.pos a.kw) Q E s₁) E s) : wpAny G.M A (callWith pos (.ref 100) [] args []) Q E s := by
  unfold callWith
  refine wpAny_bind (wpAny_holding (wpAny_mono h (fun a s₁ h₁ => ?_) fun _ _ e => e))
  obtain ⟨Y, h₁⟩ := h₁
  refine wpAny_bind (wpAny_standAt ?_)
  have tail : ∀ {t : Sem Value}, wpAny G.M A t Q E s₁ → wpAny G.M A (t >>= fun r => holding [r] point >>= fun _ => pure r) Q E s₁ :=
    fun ht => wpAny_bind (wpAny_mono ht (fun r s₂ hr => wpAny_bind (wpAny_holding (wpAny_point (wpAny_pure hr)))) fun _ _ x => x)
  simp only [hplain, List.any_nil, Bool.or_false, List.nil_append]
  refine wpAny_bind (m := keeperOf (.ref 100)) ?_
  unfold keeperOf
  obtain ⟨oc, od, cd, sl, hC, _⟩ := Y.obj
  refine wpAny_bind (wpAny_load hC ?_)
  dsimp only
  refine wpAny_bind (Y.call.here ?_)
  refine wpAny_pure ?_
  rw [if_pos (by decide)]
  exact tail h₁

theorem evv_make {px pos : Pos} {e : Expr} {x : Str} {i : Int} {n : Nat} (S : Sup G) (B : Base G) (C : Cl G K) (hf : MethAt G 38 (methStmt 0) [("__class__", 25)] (.ref 37) (.ref 30)) (h30 : ∃ t, G.kB 30 = some (seqO "tuple" #[.int 0 t] 0)) (hn : Γ.n = n + 2)
    (hk : Γ.env.kindOf "_Accumulator" = some .globalImplicit) (hm : G.mg "_Accumulator" = some (.ref 100)) (h : Ev G Γ σ e (.int i)) (hse : ∀ env rest, starEach (e :: rest) env = (false, eval e env) :: starEach rest env) (hx : ∀ W, σ.lookup x = some W → ∃ d, W = .dat d)
    (he : eval (.Call (.Name "_Accumulator" px) [e] [] pos) Γ.env = (do let f ← eval (.Name "_Accumulator" px) Γ.env; callWith pos f [] (backTo pos (starEach [e] Γ.env)) [])) :
    EvV G Γ σ (.Call (.Name "_Accumulator" px) [e] [] pos) x (.acc [] i) := fun k o s Q E st hq => by
  rw [he]
  refine wpAny_bind (name_glob B st.fn hk st.gl st.ok.baseIn hm ?_)
  refine callWith_cls (plain_evs (.cons hse h .nil)) (evalArgs_evs (.cons hse h .nil) st fun k₁ s₁ us g₁ r₁ => ?_)
  cases r₁ with
  | cons h1 r1 =>
  cases r1
  cases h1 with
  | int _ t =>
  have st₁ := st.grow g₁
  refine ⟨madeL_of C (C.kin _ st₁.ok.baseIn), make_act S B C hf h30 (hn ▸ st.rm) st₁.ok fun s' a dx od g hna hka hga hio => ?_⟩
  have st₂ := st₁.grow g
  have hmu : a ∉ Γ.mu := fun hm => by
    obtain ⟨_, ob, h2, _⟩ := st₁.mutk _ hm
    rw [hna] at h2; cases h2
  have hown : a ∉ Mine.own o := fun hm => by
    obtain ⟨p, hp, e⟩ := List.mem_map.mp hm
    obtain ⟨_, _, ob, h2, _⟩ := st₁.ownk p hp
    rw [e, hna] at h2; cases h2
  refine hq _ ((x, a) :: o) s' (.ref a) (st₂.own (x := x) hka hmu hown hga (fun vs e => by cases e) hx) ⟨((g₁.trans g).mono fun b hb => List.mem_append.mpr (.inr hb)), fun p hp => ?_⟩ (fun y hy => ?_) (fun p hp ob e => own_keeps st₁ g p hp ob (own_keeps st g₁ p hp ob e)) ⟨a, #[], 0, dx, od, rfl, by simp, hga, .nil, by rw [Part.put_self], hio⟩
  · rcases List.mem_cons.mp hp with rfl | hp
    · exact .inr (g₁.none_of hna)
    · exact .inl (List.mem_map_of_mem hp)
  · rw [List.lookup_cons, show (y == x) = false from beq_eq_false_iff_ne.mpr hy]

/-- a method of an owned accumulator is called -/
theorem call_methM {x : Str} {name : Str} {px apos pos : Pos} {es : List Expr} {ds ds' as : List D} {i : Int} {d : D} {f : Addr} {ob : Obj} {fd : FuncData} {pl : Sem Bool} {k o s} {Q : Value → Shared → Prop} {E} (C : Cl G K) (st : St G Γ σ k o s) (hx : σ.lookup x = some (.acc ds i))
    (hfind : findIn K (.ref 100) name = some (some (.ref f))) (htf : typeIn K (.ref f) = some (.type "function")) (hn : name ≠ ("_initial_size" : Str)) (hk : G.kB f = some ob) (hd : ob.data = .func fd) (hs : Evs G Γ σ es as) (h : ActM G Γ.n (fun vs => call (.ref f) vs) ds i as d ds')
    (he : eval (.Call (.Attribute (.Name x px) name apos) es [] pos) Γ.env = (do
      let ov ← eval (.Name x px) Γ.env
      standAt apos.atName
      let (f, first) ← holding [ov] (getMethod ov name pl)
      callWith pos f first (backTo pos (starEach es Γ.env)) []))
    (hq : ∀ k' s' v, St G Γ (upd σ x (.acc ds' i)) k' o s' → Grs Γ k o s k' o s' → Rd k' v d → Q v s') (hd1 : (x == ("__debug__" : Str)) = false := by decide) (hn1 : (x == ("__classdict__" : Str)) = false := by decide) :
    wpAny G.M Γ.A (eval (.Call (.Attribute (.Name x px) name apos) es [] pos) Γ.env) Q E s := by
  refine MethodCall_ (pl := pl) (wpAny_Name (load_var st hx (fun v r => ?_) hn1) hd1) he
  obtain ⟨a, vs, m, dx, od, rfl, hl, hg, I, hr, hdx, hio, hka⟩ := own_acc st r
  refine acc_method (C.kin _ st.ok.baseIn) C I hio hfind (looks_typeIn (C.kin _ st.ok.baseIn) htf) (.inl rfl) hn ?_
  refine Calls.callWith_function (o := ob) (fd := fd) (evalArgs_evs hs st fun k₁ s₁ us g₁ r₁ => ?_)
  have st₁ := st.grow g₁
  refine ⟨⟨st₁.ok.baseIn _ _ hk, hd⟩, ?_⟩
  have hg₁ := own_keeps st g₁ _ (mem_lookup hl) _ hg
  refine h Γ.A k₁ s₁ a us Q E st.rm st₁.ok (st₁.ownk _ (mem_lookup hl)).1 ⟨vs, m, dx, od, hg₁, hr.mono g₁.ext, g₁.ext _ _ hdx, hio⟩ r₁ fun k₂ s₂ v g₂ hka₂ acc₂ r₂ => ?_
  obtain ⟨vs', m', dx', od', h1, h2, h3, h4⟩ := acc₂
  obtain ⟨st₂, gs⟩ := st₁.turn (W := .acc ds' i) hx hl (fun v ⟨b, _, _, _, _, e, hb, _⟩ => by rw [hl] at hb; cases hb; exact e) ⟨_, _, _, hg₁, rfl⟩ g₂ hka₂ ⟨_, h1, fun vs e => by cases e⟩ ⟨a, vs', m', dx', od', rfl, hl, h1, h2, h3, h4⟩
  exact hq k₂ s₂ v st₂ ((Grs.ofV g₁).trans gs) r₂

theorem sx_callM {x : Str} {name : Str} {px apos pos pos' : Pos} {es : List Expr} {ds ds' as : List D} {i : Int} {d : D} {f : Addr} {ob : Obj} {fd : FuncData} {pl : Sem Bool} (C : Cl G K) (hx : σ.lookup x = some (.acc ds i))
    (hfind : findIn K (.ref 100) name = some (some (.ref f))) (htf : typeIn K (.ref f) = some (.type "function")) (hn : name ≠ ("_initial_size" : Str)) (hk : G.kB f = some ob) (hd : ob.data = .func fd) (hs : Evs G Γ σ es as) (h : ActM G Γ.n (fun vs => call (.ref f) vs) ds i as d ds')
    (he : eval (.Call (.Attribute (.Name x px) name apos) es [] pos) Γ.env = (do
      let ov ← eval (.Name x px) Γ.env
      standAt apos.atName
      let (f, first) ← holding [ov] (getMethod ov name pl)
      callWith pos f first (backTo pos (starEach es Γ.env)) []))
    (hi : interactive Γ.env = false) (hsw : swapsWith (.Call (.Attribute (.Name x px) name apos) es [] pos) none pos'.line Γ.env = pure false)
    (hd1 : (x == ("__debug__" : Str)) = false := by decide) (hn1 : (x == ("__classdict__" : Str)) = false := by decide) : Sx G Γ σ (.Expr (.Call (.Attribute (.Name x px) name apos) es [] pos) pos') (.next (upd σ x (.acc ds' i))) := fun k o s Q E st p =>
  wpAny_Expr_any (call_methM C st hx hfind htf hn hk hd hs h he (fun k' s' v st' g r => p k' o s' st' g) hd1 hn1) hi hsw

theorem sx_assignM {y x : Str} {name : Str} {py px apos pos pos' : Pos} {es : List Expr} {ds ds' as : List D} {i : Int} {d : D} {f : Addr} {ob : Obj} {fd : FuncData} {pl : Sem Bool} (C : Cl G K) (hx : σ.lookup x = some (.acc ds i))
    (hfind : findIn K (.ref 100) name = some (some (.ref f))) (htf : typeIn K (.ref f) = some (.type "function")) (hn : name ≠ ("_initial_size" : Str)) (hk : G.kB f = some ob) (hd : ob.data = .func fd) (hs : Evs G Γ σ es as) (h : ActM G Γ.n (fun vs => call (.ref f) vs) ds i as d ds')
    (he : eval (.Call (.Attribute (.Name x px) name apos) es [] pos) Γ.env = (do
      let ov ← eval (.Name x px) Γ.env
      standAt apos.atName
      let (f, first) ← holding [ov] (getMethod ov name pl)
      callWith pos f first (backTo pos (starEach es Γ.env)) []))
    (hy : Place Γ y) (hsw : swapsWith (.Call (.Attribute (.Name x px) name apos) es [] pos) (some (.Name y py)) pos'.line Γ.env = pure false)
    (hd1 : (x == ("__debug__" : Str)) = false := by decide) (hn1 : (x == ("__classdict__" : Str)) = false := by decide) : Sx G Γ σ (.Assign [.Name y py] (.Call (.Attribute (.Name x px) name apos) es [] pos) pos') (.next (upd (upd σ x (.acc ds' i)) y (.dat d))) := fun k o s Q E st p =>
  wpAny_Assign_Name (call_methM C st hx hfind htf hn hk hd hs h he (fun k' s' v st' g r => store_dat hy st' r fun s'' st'' g'' => p k' o s'' st'' (g.trans g'')) hd1 hn1) hsw
end
end Mine

namespace Mine
open PySem PySem.Calls PySem.Spec PyProof.Rows PySem.W
set_option maxRecDepth 100000
set_option linter.unusedVariables false
set_option linter.unusedSimpArgs false

noncomputable abbrev mpScope : Scope := { kind := .function, names := [(".0", .local), ("mark", .local), ("part", .local)], isGenerator := false, isCoroutine := false, more := [] }
noncomputable abbrev pScope : Scope := { kind := .function, names := [(".0", .local), ("piece", .local)], isGenerator := false, isCoroutine := false, more := [] }

section
variable {G : Gd} {Γ : Cx} {σ : Sto}

theorem each_pieces (elt : Expr) (f : Piece → D) (p1 p2 p3 : Pos) (n : Nat) (C : Addr) (ps : List Piece) (h : ∀ p ∈ ps, Ev G (cxc Γ mpScope [] C) (upd (upd [] "mark" (.dat (.str (S p.1)))) "part" (.dat (.str (S p.2)))) elt (f p)) :
    Each G (cxc Γ mpScope [] C) [] (.Tuple [.Name "mark" p1, .Name "part" p2] n p3) elt (ps.map piece) (ps.map f) := by
  refine each_map _ _ _ fun p hp => ⟨_, asg_tuple (ts := [("mark", p1), ("part", p2)]) rfl (.cons (.loc rfl) (.cons (.loc rfl) .nil)), fun x V e => by simp at e, h p hp⟩

theorem ev_parts {iter : Expr} {ps : List Piece} {p1 p2 p3 p4 pos : Pos} {n : Nat} (hit : Itr G Γ σ iter (ps.map piece)) (hs : ∀ x, foldedSetIterable iter Γ.env x = pure x) (hsz : ps.length ≤ sizeLine) :
    Ev G Γ σ (.ListComp (.Name "part" p4) [⟨.Tuple [.Name "mark" p1, .Name "part" p2] n p3, iter, [], 0⟩] mpScope pos) (.list (txts (ps.map (·.2)))) := by
  rw [show txts (ps.map (·.2)) = ps.map (fun p => D.str (S p.2)) from List.map_map ..]
  refine ev_comp (cl := []) (σc := []) hit ⟨hs, rfl, rfl, by decide, ?_, ?_, ?_⟩ (fun C => each_pieces _ _ p1 p2 p3 n C ps fun p hp => ev_name rfl) (by rw [List.length_map]; exact hsz)
  · intro x c h; cases h
  · intro C p hp; cases hp
  · intro C x V e; simp at e
theorem ev_whole {iter : Expr} {ps : List Piece} {p1 p2 p3 p4 p5 p6 pos : Pos} {n : Nat} (hit : Itr G Γ σ iter (ps.map piece)) (hs : ∀ x, foldedSetIterable iter Γ.env x = pure x) (hsz : ps.length ≤ 1000) (hpl : ∀ p ∈ ps, p.1.length + p.2.length ≤ 1000) :
    Ev G Γ σ (.ListComp (.BinOp (.Name "mark" p4) .Add (.Name "part" p5) p6) [⟨.Tuple [.Name "mark" p1, .Name "part" p2] n p3, iter, [], 0⟩] mpScope pos) (.list (txts (ps.map fun p => p.1 ++ p.2))) := by
  have hs' := sizeLine_eq
  rw [show txts (ps.map fun p => p.1 ++ p.2) = ps.map (fun p => D.str (S (p.1 ++ p.2))) from List.map_map ..]
  refine ev_comp (cl := []) (σc := []) hit ⟨hs, rfl, rfl, by decide, ?_, ?_, ?_⟩ (fun C => each_pieces _ _ p1 p2 p3 n C ps fun p hp => ev_binop (ev_name rfl) (ev_name rfl) (add_ss _ _ (by have := hpl p hp; omega))) (by rw [List.length_map]; omega)
  · intro x c h; cases h
  · intro C p hp; cases hp
  · intro C x V e; simp at e
theorem ev_each {iter : Expr} {ps : List Piece} {p1 p2 pos : Pos} (hit : Itr G Γ σ iter (ps.map piece)) (hs : ∀ x, foldedSetIterable iter Γ.env x = pure x) (hsz : ps.length ≤ sizeLine) :
    Ev G Γ σ (.ListComp (.Name "piece" p1) [⟨.Name "piece" p2, iter, [], 0⟩] pScope pos) (.list (ps.map piece)) := by
  refine ev_comp (cl := []) (σc := []) hit ⟨hs, rfl, rfl, by decide, ?_, ?_, ?_⟩ (fun C => each_map _ _ _ fun p hp => ⟨_, asg_name (.loc rfl), fun x V e => by simp at e, ev_name rfl⟩) (by rw [List.length_map]; exact hsz)
  · intro x c h; cases h
  · intro C p hp; cases hp
  · intro C x V e; simp at e
end
end Mine

namespace Mine
open PySem PySem.Calls PySem.Spec PyProof.Rows PySem.W
set_option maxRecDepth 100000
set_option linter.unusedVariables false
set_option linter.unusedSimpArgs false

section
variable {G : Gd} {n : Nat}

theorem before_idx {α : Type} [BEq α] [LawfulBEq α] (x : α) : ∀ (l : List α) (i : Nat), i < l.idxOf x → ∀ h : i < l.length, l[i] ≠ x
  | [], i, h, h' => by cases h'
  | y :: l, 0, h, h' => by
    intro q
    have q : y = x := q
    subst q
    rw [List.idxOf_cons] at h
    simp at h
  | y :: l, i + 1, h, h' => by
    rw [List.idxOf_cons] at h
    cases e : y == x with
    | true => rw [e] at h; cases h
    | false =>
      rw [e] at h
      exact before_idx x l i (by simpa using h) (by simpa using h')

theorem piece_at {A : Around} {k : Part} {s : Shared} {v u : Value} {p : Piece} (hin : k.inH s.heap) (h1 : Rd k v (piece p)) (h2 : Rd k u (piece p)) (hu : A.units < cLine) : SeqAt.EqAt A s v u true := by
  cases h1 with
  | @tup a vs m _ ha ra =>
  cases h2 with
  | @tup b us m' _ hb rb =>
  by_cases hab : a = b
  · subst hab; exact SeqAt.EqAt.same _
  · refine SeqAt.EqAt.of_refs hab ?_
    have hl : s.heap.IsTuple a vs.toArray := ⟨_, hin _ _ ha, rfl, m, rfl⟩
    have hl' : s.heap.IsTuple b us.toArray := ⟨_, hin _ _ hb, rfl, m', rfl⟩
    have e1 : vs.length = 2 := ra.length
    have e2 : us.length = 2 := rb.length
    have := SeqAt.RcAt.tuples (A := A) (s := s) (e := fun _ => true) hl hl' hu (fun j h1 h2 => ?_)
    · rw [List.size_toArray, List.size_toArray, e1, e2] at this
      exact this
    · have g1 : vs[j]? = some (vs.toArray[j]) := by rw [List.getElem_toArray]; exact List.getElem?_eq_getElem _
      have g2 : us[j]? = some (us.toArray[j]) := by rw [List.getElem_toArray]; exact List.getElem?_eq_getElem _
      obtain ⟨d, hd, r1⟩ := ra.get g1
      obtain ⟨d', hd', r2⟩ := rb.get g2
      rw [hd] at hd'; cases hd'
      have : ∃ l, d = .str (S l) := by
        have hj : j < 2 := by rw [List.size_toArray, e1] at h1; exact h1
        match j, hj with
        | 0, _ => exact ⟨p.1, by simpa using hd.symm⟩
        | 1, _ => exact ⟨p.2, by simpa using hd.symm⟩
      obtain ⟨l, rfl⟩ := this
      generalize vs.toArray[j] = x at r1
      generalize us.toArray[j] = y at r2
      cases r1 with
      | str _ t => cases r2 with
      | str _ t' =>
        have := SeqAt.EqAt.str_str (A := A.in1) (s := s) (S l) t (S l) t'
        rwa [beq_self_eq_true] at this

theorem ne_pieces (ps : List Piece) : Act G n (fun vs => compareOp .NotEq (vs.getD 0 .none) (vs.getD 1 .none)) [.list (ps.map piece), .list (ps.map piece)] (.bool false) := act2 fun A k s v u Q E rm ok h1 h2 hq => by
  obtain ⟨a, vs, m, rfl, hl, hr⟩ := isL_of ok h1
  obtain ⟨b, us, m', rfl, hb, hs⟩ := isL_of ok h2
  have e1 : vs.length = ps.length := by rw [hr.length, List.length_map]
  have e2 : us.length = ps.length := by rw [hs.length, List.length_map]
  have := SeqAt.RcNeAt.lists (A := A) (s := s) (e := fun _ => true) hl.isList hb.isList (by rw [List.size_toArray, List.size_toArray, e1, e2]) rm.units (fun j h1 h2 => ?_)
  · have e3 : (!(List.range vs.toArray.size).all fun _ => true) = false := by simp
    rw [e3] at this
    exact this _ _ _ _ (hq _ s.toks (.bool _))
  · have g1 : vs[j]? = some (vs.toArray[j]) := by rw [List.getElem_toArray]; exact List.getElem?_eq_getElem _
    have g2 : us[j]? = some (us.toArray[j]) := by rw [List.getElem_toArray]; exact List.getElem?_eq_getElem _
    obtain ⟨d, hd, r1⟩ := hr.get g1
    obtain ⟨d', hd', r2⟩ := hs.get g2
    rw [hd] at hd'; cases hd'
    rw [List.getElem?_map] at hd
    obtain ⟨p, _, rfl⟩ := Option.map_eq_some_iff.mp hd
    exact piece_at ok.sub r1 r2 (by have := rm.hu; have : cLine = 9900 := rfl; show A.units + 1 < cLine; omega)

noncomputable def ints' (xs : List Int) : List D := xs.map .int
theorem ne_intl (xs : List Int) : Act G n (fun vs => compareOp .NotEq (vs.getD 0 .none) (vs.getD 1 .none)) [.list (ints' xs), .list (ints' xs)] (.bool false) := act2 fun A k s v u Q E rm ok h1 h2 hq => by
  obtain ⟨a, vs, m, rfl, hl, hr⟩ := isL_of ok h1
  obtain ⟨b, us, m', rfl, hb, hs⟩ := isL_of ok h2
  have e1 : vs.length = xs.length := by rw [hr.length]; exact List.length_map ..
  have e2 : us.length = xs.length := by rw [hs.length]; exact List.length_map ..
  have := SeqAt.RcNeAt.lists (A := A) (s := s) (e := fun _ => true) hl.isList hb.isList (by rw [List.size_toArray, List.size_toArray, e1, e2]) rm.units (fun j h1 h2 => ?_)
  · have e3 : (!(List.range vs.toArray.size).all fun _ => true) = false := by simp
    rw [e3] at this
    exact this _ _ _ _ (hq _ s.toks (.bool _))
  · have g1 : vs[j]? = some (vs.toArray[j]) := by rw [List.getElem_toArray]; exact List.getElem?_eq_getElem _
    have g2 : us[j]? = some (us.toArray[j]) := by rw [List.getElem_toArray]; exact List.getElem?_eq_getElem _
    obtain ⟨d, hd, r1⟩ := hr.get g1
    obtain ⟨d', hd', r2⟩ := hs.get g2
    rw [hd] at hd'; cases hd'
    unfold ints' at hd
    rw [List.getElem?_map] at hd
    obtain ⟨p, _, rfl⟩ := Option.map_eq_some_iff.mp hd
    generalize vs.toArray[j] = x at r1
    generalize us.toArray[j] = y at r2
    cases r1 with
    | int _ t => cases r2 with
    | int _ t' =>
      have := SeqAt.EqAt.int_int (A := A.in1) (s := s) p t p t'
      rwa [beq_self_eq_true] at this

theorem index_ls (c : Nat) (ls : List (List Nat)) (hc : [c] ∈ ls) (hl : ls.length ≤ sizeLine) : Act G n (fun vs => call (.builtin "list.index") vs) [.list (txts ls), .str (S [c])] (.int (ls.idxOf [c] : Nat)) := act2 fun A k s v u Q E rm ok h1 h2 hq => by
  obtain ⟨a, vs, m, rfl, hlv, hr⟩ := isL_of ok h1
  cases h2 with
  | str _ t =>
  have e1 : vs.length = ls.length := by rw [hr.length, List.length_map]
  have hj : ls.idxOf [c] < ls.length := List.idxOf_lt_length_iff.mpr hc
  have hs := sizeLine_eq
  have item : ∀ j (h : j < vs.toArray.size), ∃ t', vs.toArray[j] = .str (S (ls.getD j [])) t' := fun j h => by
    have h' : j < vs.length := by simpa using h
    have g1 : vs[j]? = some (vs.toArray[j]) := by rw [List.getElem_toArray]; exact List.getElem?_eq_getElem _
    obtain ⟨d, hd, r1⟩ := hr.get g1
    rw [List.getElem?_map] at hd
    obtain ⟨l, hl, rfl⟩ := Option.map_eq_some_iff.mp hd
    rw [List.getD_eq_getElem?_getD, hl]
    generalize vs.toArray[j] = x at r1
    cases r1 with
    | str _ t' => exact ⟨t', rfl⟩
  have val : ∀ l t', strOf (.str (S l) t') = S [c] ↔ l = [c] := fun l t' => by
    constructor
    · intro q
      have := congrArg (fun z : Str => z.cps.toList) q
      simpa [strOf, S_cps] using this
    · rintro rfl; rfl
  refine call_meets F.slot_list_index ⟨_, hlv, rfl⟩ F.entry_list_index (F.args_list_index_2 _ _) (MeetsSeq.list_index a vs.toArray m (.str (S [c]) t) (fun v => decide (strOf v = S [c])) (fun y hy => ?_) (ls.idxOf [c]) (by rw [List.size_toArray, e1]; exact hj) (by omega) ?_ (fun i hi hlt => ?_)) ⟨hlv, hq _ _ (.int _ _)⟩
  · obtain ⟨j, hj', rfl⟩ := Array.mem_iff_getElem.mp hy
    obtain ⟨t', e⟩ := item j hj'
    rw [e]
    have := SeqRoads2.EqGives.str (S (ls.getD j [])) (S [c]) t' t
    have e2 : ((S (ls.getD j [])).cps.toList == (S [c]).cps.toList) = decide (strOf (.str (S (ls.getD j [])) t') = S [c]) := by
      rw [S_cps, S_cps, Bool.eq_iff_iff]
      simp only [beq_iff_eq, decide_eq_true_iff]
      exact (val _ _).symm
    rw [← e2]
    exact this
  · obtain ⟨t', e⟩ := item (ls.idxOf [c]) (by rw [List.size_toArray, e1]; exact hj)
    rw [e, decide_eq_true_iff, val, List.getD_eq_getElem?_getD, List.getElem?_eq_getElem hj]
    exact List.getElem_idxOf hj
  · obtain ⟨t', e⟩ := item i hi
    rw [e, decide_eq_false_iff_not, val, List.getD_eq_getElem?_getD, List.getElem?_eq_getElem (Nat.lt_trans hlt hj)]
    intro q
    exact before_idx [c] ls i hlt (Nat.lt_trans hlt hj) (by simpa using q)
end
end Mine

namespace Mine
open PySem PySem.Calls PySem.Spec PyProof.Rows PySem.W
set_option maxRecDepth 100000
set_option linter.unusedVariables false
set_option linter.unusedSimpArgs false

noncomputable abbrev RSt := List Piece × List (List Nat)
noncomputable def letters (ps : List Piece) : List (List Nat) := ps.map (·.2)
noncomputable def rStep (side : Int) (st : RSt) (c : Nat) : RSt :=
  if [c] ∈ letters st.1 then (st.1.take ((letters st.1).idxOf [c]) ++ [([c] ++ dots, [c])], st.2 ++ [sided side (letters (st.1.drop ((letters st.1).idxOf [c]))).flatten]) else (st.1 ++ [([], [c])], st.2)
noncomputable def rRun (side : Int) (text : List Nat) : RSt := text.foldl (rStep side) ([], [])

/-- the tests at the end of the reading -/
noncomputable def endOk (text : List Nat) : Bool :=
  ell (ptext (rRun 1 text).1) text && !ell (ptext (rRun 1 text).1) (text.drop 1) && !ell (ptext (rRun 1 text).1) text.dropLast
/-- the tests on the way -/
noncomputable def stepOk (held : List Nat) (c : Nat) : Bool := ell (dots ++ [c] ++ dots) held == decide (c ∈ held)
end Mine

namespace Mine
open PySem PySem.Calls PySem.Spec PyProof.Rows PySem.W
set_option maxRecDepth 100000
set_option linter.unusedVariables false
set_option linter.unusedSimpArgs false

/-- all that the reader asks of the base -/
structure Rdr (G : Gd) (K : Frag) : Prop where
  S : Sup G
  B : Base G
  C : Cl G K
  N : Nm G
  N2 : Nm2 G
  N3 : Nm3 G
  Md : ModOk G
  acc : G.mg "_Accumulator" = some (.ref 100)
  str0 : G.mg "str" = none
  str1 : G.mb "str" = some (.type "str")
  ellN : G.mg "_ellipsis_match" = some (.ref 125)
  namedN : G.mg "_law_named" = some (.ref 142)
  ellF : FnAt G 125 (stmtAt 9)
  namedF : FnAt G 142 (stmtAt 13)
  m0 : MethAt G 38 (methStmt 0) [("__class__", 25)] (.ref 37) (.ref 30)
  m1 : ∃ cd, MethAt G 45 (methStmt 1) [] cd .none
  m2 : ∃ cd, MethAt G 53 (methStmt 2) [] cd (.ref 46)
  m4 : MethAt G 67 (methStmt 4) [] (.ref 66) .none
  m5 : MethAt G 74 (methStmt 5) [] (.ref 73) .none
  m8 : MethAt G 97 (methStmt 8) [("__class__", 25)] (.ref 96) .none
  d30 : ∃ t, G.kB 30 = some (seqO "tuple" #[.int 0 t] 0)
  d46 : ∃ t, G.kB 46 = some (seqO "tuple" #[.int 0 t] 0)

/-- a piece as the reader leaves it -/
noncomputable def okPiece (p : Piece) : Prop := ∃ c, c ≠ 46 ∧ p.2 = [c] ∧ (p.1 = [] ∨ p.1 = [c] ++ dots)
theorem okPiece.len {p : Piece} (h : okPiece p) : p.1.length ≤ 4 ∧ p.2.length = 1 := by
  obtain ⟨c, _, h2, h1 | h1⟩ := h <;> rw [h1, h2] <;> exact ⟨by simp [dots], rfl⟩
theorem small_of {ps : List Piece} (h : ∀ p ∈ ps, okPiece p) (hl : ps.length ≤ 100) : small ps := ⟨hl, fun p hp => by have := (h p hp).len; omega⟩
theorem ptext_le : ∀ {ps : List Piece}, (∀ p ∈ ps, okPiece p) → (ptext ps).length ≤ 5 * ps.length
  | [], _ => by simp [ptext]
  | p :: ps, h => by
    have := (h p (.head _)).len
    have ih := ptext_le fun q hq => h q (.tail _ hq)
    unfold ptext at ih ⊢
    rw [List.flatMap_cons, List.length_append, List.length_append, List.length_cons]
    omega
theorem mem_ptext {ps : List Piece} (h : ∀ p ∈ ps, okPiece p) {c : Nat} (hc : c ≠ 46) : c ∈ ptext ps ↔ [c] ∈ letters ps := by
  unfold ptext letters
  rw [List.mem_flatMap, List.mem_map]
  constructor
  · rintro ⟨p, hp, hm⟩
    obtain ⟨d, hd, h2, h1⟩ := h p hp
    refine ⟨p, hp, ?_⟩
    rw [List.mem_append, h2] at hm
    rw [h2]
    rcases hm with hm | hm
    · rcases h1 with h1 | h1
      · rw [h1] at hm; cases hm
      · rw [h1] at hm
        simp [dots] at hm
        rcases hm with hm | hm
        · rw [hm]
        · exact absurd hm hc
    · rw [List.mem_singleton.mp hm]
  · rintro ⟨p, hp, e⟩
    exact ⟨p, hp, List.mem_append.mpr (.inr (by rw [e]; exact .head _))⟩
theorem ptext_append (a b : List Piece) : ptext (a ++ b) = ptext a ++ ptext b := by unfold ptext; rw [List.flatMap_append]

theorem rStep_ok {side : Int} {st : RSt} {c : Nat} (hc : c ≠ 46) (h : ∀ p ∈ st.1, okPiece p) : ∀ p ∈ (rStep side st c).1, okPiece p := by
  unfold rStep
  split
  · intro p hp
    rcases List.mem_append.mp hp with hp | hp
    · exact h p (List.mem_of_mem_take hp)
    · rw [List.mem_singleton.mp hp]; exact ⟨c, hc, rfl, .inr rfl⟩
  · intro p hp
    rcases List.mem_append.mp hp with hp | hp
    · exact h p hp
    · rw [List.mem_singleton.mp hp]; exact ⟨c, hc, rfl, .inl rfl⟩
theorem rStep_len {side : Int} {st : RSt} {c : Nat} : (rStep side st c).1.length ≤ st.1.length + 1 ∧ (rStep side st c).2.length ≤ st.2.length + 1 := by
  unfold rStep
  split
  · simp; omega
  · simp
theorem rRun_ok (side : Int) : ∀ (l : List Nat) (st : RSt), (∀ c ∈ l, c ≠ 46) → (∀ p ∈ st.1, okPiece p) → (∀ p ∈ (l.foldl (rStep side) st).1, okPiece p) ∧ (l.foldl (rStep side) st).1.length ≤ st.1.length + l.length ∧ (l.foldl (rStep side) st).2.length ≤ st.2.length + l.length
  | [], st, _, h => ⟨h, by simp, by simp⟩
  | c :: l, st, hl, h => by
    obtain ⟨h1, h2, h3⟩ := rRun_ok side l (rStep side st c) (fun d hd => hl d (.tail _ hd)) (rStep_ok (hl c (.head _)) h)
    have := rStep_len (side := side) (st := st) (c := c)
    rw [List.foldl_cons, List.length_cons]
    exact ⟨h1, by omega, by omega⟩

noncomputable def readSto (walk : List Nat) (side head : Int) (text : List Nat) (st : RSt) : Sto :=
  [("pile", .acc (st.1.map piece) head), ("loops", .lst (txts st.2)), ("text", .dat (.str (S text))), ("walk", .dat (.str (S walk))), ("side", .dat (.int side)), ("head", .dat (.int head))]
end Mine

namespace Mine
open PySem PySem.Calls PySem.Spec PyProof.Rows PySem.W
set_option maxRecDepth 100000
set_option linter.unusedVariables false
set_option linter.unusedSimpArgs false

noncomputable def readFor : List Stmt := match (bodyOf (stmtAt 14)).getD 1 (.Pass default) with | .For _ _ body _ _ => body | _ => []

section
variable {G : Gd} {K : Frag}

section
variable {Γ : Cx} {σ : Sto}
theorem ev_strA {n : Nat} {x : Str} {f p pos : Pos} {ps : List Piece} {i : Int} (R : Rdr G K) (hn : Γ.n = n + 2) (hk : Γ.env.kindOf "str" = some .globalImplicit) (hx : σ.lookup x = some (.acc (ps.map piece) i)) (hsm : small ps) (hd : (x == ("__debug__" : Str)) = false := by decide) (hn1 : (x == ("__classdict__" : Str)) = false := by decide) :
    Ev G Γ σ (.Call (.Name "str" f) [.Name x p] [] pos) (.str (S (ptext ps))) := by
  refine ev_borrowA hx (call_t (fv_builtin R.B hk R.str0 R.str1) (.cons (fun _ _ => rfl) (ev_name lk_here hd hn1) .nil) ?_) (.flat trivial)
  rw [hn]
  exact strA R.C (str_act R.B R.N2 R.Md R.C R.m5 ps i hsm)

theorem ev_join {e : Expr} {p1 p2 pos : Pos} {ls : List (List Nat)} (h : Ev G Γ σ e (.list (txts ls))) (hse : ∀ env rest, starEach (e :: rest) env = (false, eval e env) :: starEach rest env) (hsz : ls.length ≤ 1000) (hl : ∀ l ∈ ls, l.length ≤ 1000)
    (hbase : attributeBase (.Constant (.str "") 0 p1) "join" Γ.env (eval (.Constant (.str "") 0 p1) Γ.env) = eval (.Constant (.str "") 0 p1) Γ.env)
    (hfew : ((backTo pos (starEach [e] Γ.env)).all (fun x => !x.1) && (backToKw pos (keywordEach [] Γ.env)).all (fun x => x.1.isSome)
      && decide ([e].length + ([] : List Keyword).length + (if ([] : List Keyword).isEmpty then 0 else 1) < 30)) = true)
    (hline : (p2.endLine == pos.line) = true) : Ev G Γ σ (.Call (.Attribute (.Constant (.str "") 0 p1) "join" p2) [e] [] pos) (.str (S ls.flatten)) := by
  have hs := sizeLine_eq
  have h2 := sizes_nil ls 1000 hl
  rw [← joinL_nil]
  exact ev_meth (ev_txt (l := []) rfl) (type_s _) F.plainAttrs_str F.slot_str_join F.type_str_join (.cons hse h .nil) (join_ls _ _ (by have : ls.length * 1000 ≤ 1000000 := by omega
                                                                                                                                       omega)) hbase hfew hline
end

theorem map_drop_piece (ps : List Piece) (j : Nat) : (ps.map piece).drop j = (ps.drop j).map piece := by rw [List.map_drop]
theorem map_take_piece (ps : List Piece) (j : Nat) : (ps.map piece).take j = (ps.take j).map piece := by rw [List.map_take]

theorem piece_noacc (p : Piece) : NoAcc (piece p) := .tup fun x hx => by
  simp only [List.mem_cons, List.not_mem_nil, or_false] at hx
  rcases hx with rfl | rfl <;> exact .flat trivial

set_option maxHeartbeats 4000000 in
theorem read_body {n : Nat} {A : Around} {L : Addr} {pm cd doc : Value} (R : Rdr G K) (walk : List Nat) (side head : Int) (text : List Nat) (st : RSt) (c : Nat) (hside : side = 1 ∨ side = -1) (hc : c ≠ 46) (h1 : ∀ p ∈ st.1, okPiece p) (hl1 : st.1.length ≤ 60) (hl2 : st.2.length ≤ 60) (hok : stepOk (ptext st.1) c = true) :
    Ex G (cx A (n + 2) (defOf (stmtAt 14) pm cd doc) L 147) (upd (readSto walk side head text st) "letter" (.dat (.str (S [c])))) readFor (.next (readSto walk side head text (rStep side st c))) := by
  have hs := sizeLine_eq
  obtain ⟨ps, ls⟩ := st
  replace h1 : ∀ p ∈ ps, okPiece p := h1
  replace hl1 : ps.length ≤ 60 := hl1
  replace hl2 : ls.length ≤ 60 := hl2
  replace hok : stepOk (ptext ps) c = true := hok
  have hsm := small_of h1 (Nat.le_trans hl1 (by decide))
  have hpl := ptext_le h1
  have hmem := mem_ptext h1 hc
  have hsaid : ell (dots ++ [c] ++ dots) (ptext ps) = decide (c ∈ ptext ps) := by
    unfold stepOk at hok; exact eq_of_beq hok
  obtain ⟨ob', pm', cd', doc', hk', hd', hc'⟩ := id R.ellF
  refine ex_cons (sx_swap (ws := [("lead", .dat (.str (S []))), ("held", .dat (.str (S (ptext ps))))]) (.cons (fun _ _ => rfl) (evv_dat (ev_txt rfl)) (by show ("lead" : Str) ∉ [("held" : Str)]; decide) (.cons (fun _ _ => rfl) (evv_dat (ev_strA R rfl rfl rfl hsm)) (by show ("held" : Str) ∉ []; decide) .nil)) (.cons (.loc rfl) (.cons (.loc rfl) .nil)) rfl (by show (2 : Nat) ≤ _; omega) rfl rfl) ?_
  refine ex_cons (sx_assign (d := .bool (decide (c ∈ ptext ps))) ?_ (.loc rfl) rfl) ?_
  · rw [← hsaid]
    refine call_f (fv_global R.B rfl R.ellN) hk' hd' (.cons (fun _ _ => rfl) (ev_binop (ev_binop (ev_txt (l := dots) rfl) (ev_name rfl) (add_ss dots [c] ?_)) (ev_txt (l := dots) rfl) (add_ss _ dots ?_)) (.cons (fun _ _ => rfl) (ev_name rfl) .nil)) (ell_act R.B R.N R.N2 R.ellF _ _ ?_ ?_)
    · show 3 + 1 ≤ _; omega
    · show 4 + 3 ≤ _; omega
    · show 7 ≤ _; omega
    · omega
  by_cases hm : [c] ∈ letters ps
  · have hmt : c ∈ ptext ps := hmem.mpr hm
    have e1 : rStep side (ps, ls) c = (ps.take ((letters ps).idxOf [c]) ++ [([c] ++ dots, [c])], ls ++ [sided side (letters (ps.drop ((letters ps).idxOf [c]))).flatten]) := if_pos hm
    rw [e1, decide_eq_true hmt]
    generalize hj : (letters ps).idxOf [c] = j
    have hjl : j ≤ ps.length := by rw [← hj]; have := List.idxOf_le_length (a := [c]) (l := letters ps); rwa [letters, List.length_map] at this
    refine ex_cons (sx_if (b := false) (tv_cmp (ev_name rfl) (ev_cmp (ev_name rfl) (ev_name rfl) (in_true c _ hmt)) (isnot_bb true true)) (fun h => by cases h) (fun _ => ex_nil)) ?_
    obtain ⟨cd2, ob2, qual2, pm2, doc2, ct2, hk2, hd2, hc2⟩ := id R.m2
    obtain ⟨cd1, ob1, qual1, pm1, doc1, ct1, hk1, hd1, hc1⟩ := id R.m1
    have hpop : ActM G (n + 2) (fun vs => call (.ref 53) vs) (ps.map piece) head [.int j] (.list ((ps.drop j).map piece)) ((ps.take j).map piece) := by
      rw [← map_drop_piece, ← map_take_piece]
      exact pop_act R.B R.C R.m2 R.d46 _ _ j _ (.inl rfl) (by rw [List.length_map]; exact hjl) (fun d hd => by obtain ⟨p, _, rfl⟩ := List.mem_map.mp hd; exact piece_noacc p) (by rw [List.length_map]; omega)
    have hidx := index_ls (G := G) (n := n + 2) c (letters ps) hm (by rw [letters, List.length_map]; omega)
    rw [hj] at hidx
    have htk : ∀ p ∈ ps.take j, okPiece p := fun p hp => h1 p (List.mem_of_mem_take hp)
    have hdr : ∀ p ∈ ps.drop j, okPiece p := fun p hp => h1 p (List.mem_of_mem_drop hp)
    have hdl : (ps.drop j).length ≤ 60 := by rw [List.length_drop]; omega
    have htl : (ps.take j).length ≤ 60 := by rw [List.length_take]; omega
    have hfl := ptext_flat (ps.drop j)
    have hsplit : ptext (ps.take j) ++ ((ps.drop j).map fun p => p.1 ++ p.2).flatten = ptext ps := by
      rw [hfl, ← ptext_append, List.take_append_drop]
    have htp := ptext_le htk
    have hdp := ptext_le hdr
    have hlet : (letters (ps.drop j)).flatten.length ≤ 60 := by
      have : ∀ qs : List Piece, (∀ p ∈ qs, okPiece p) → (letters qs).flatten.length = qs.length := fun qs hq => by
        induction qs with
        | nil => rfl
        | cons q qs ih =>
          have := (hq q (.head _)).len.2
          show (q.2 ++ (letters qs).flatten).length = _
          rw [List.length_append, this, ih (fun p hp => hq p (.tail _ hp)), List.length_cons, Nat.add_comm]
      rw [this _ hdr]; exact hdl
    have hlet2 : (List.map (fun x : Piece => x.2) (ps.drop j)).flatten.length ≤ sizeLine := by
      have : (List.map (fun x : Piece => x.2) (ps.drop j)).flatten.length ≤ 60 := hlet
      omega
    have hdl2 : (ps.drop j).length ≤ sizeLine := by omega
    have hdl3 : (ps.drop j).length ≤ 1000 := by omega
    have hps2 : ps.length ≤ sizeLine := by omega
    have hne : Act G (n + 2) (fun vs => compareOp .NotEq (vs.getD 0 .none) (vs.getD 1 .none)) [.str (S (ptext (ps.take j) ++ ((ps.drop j).map fun p => p.1 ++ p.2).flatten)), .str (S (ptext ps))] (.bool false) := by
      rw [hsplit]
      have := ne_ss (G := G) (n := n + 2) (ptext ps) (ptext ps)
      rwa [bne_self_eq_false] at this
    refine ex_cons (sx_if (b := true) (tv_bool (ev_name rfl) (fun _ => rfl)) (fun _ => ex_cons (sx_assignM (y := "gone") (f := 53) (ds := ps.map piece) (as := [.int j]) R.C rfl R.C.pop (R.C.fn 53 (by simp)) (by decide) hk2 hd2 (.cons (fun _ _ => rfl) ?_ .nil) hpop rfl (.loc rfl) rfl)
      (ex_cons (sx_if (b := false) (tv_cmp (ev_binop (ev_strA R rfl rfl rfl (small_of htk (Nat.le_trans htl (by decide)))) ?_ (add_ss _ _ ?_)) (ev_name rfl) hne) (fun h => by cases h) (fun _ => ex_nil))
        (ex_cons (sx_append (ds := txts ls) (d := .str (S (sided side (letters (ps.drop j)).flatten))) rfl ?_ (by rw [List.length_map]; omega) (fun _ _ => rfl) rfl rfl rfl rfl rfl)
          (ex_cons (sx_assign (d := .str (S ([c] ++ dots))) (ev_binop (ev_name rfl) (ev_txt (l := dots) rfl) (add_ss [c] dots ?_)) (.loc rfl) rfl) ex_nil)))) (fun h => by cases h)) ?_
    · exact ev_borrowA (x := "pile") rfl (ev_meth (ev_parts (ps := ps) (itr_acc R.C (ev_name rfl)) (fun _ => rfl) hps2) (type_l _) F.plainAttrs_list F.slot_list_index F.type_list_index (.cons (fun _ _ => rfl) (ev_name rfl) .nil) hidx rfl rfl rfl) (.flat trivial)
    · exact ev_join (ev_whole (ps := ps.drop j) (itr_list (ev_name rfl)) (fun _ => rfl) hdl3 (fun p hp => by have := (hdr p hp).len; omega)) (fun _ _ => rfl) (by rw [List.length_map]; omega) (fun l hl => by obtain ⟨p, hp, rfl⟩ := List.mem_map.mp hl; have := (hdr p hp).len; rw [List.length_append]; omega) rfl rfl rfl
    · rw [hfl]; omega
    · refine ev_slice (ev_join (ev_parts (ps := ps.drop j) (itr_list (ev_name rfl)) (fun _ => rfl) hdl2) (fun _ _ => rfl) (by rw [List.length_map]; omega) (fun l hl => by obtain ⟨p, hp, rfl⟩ := List.mem_map.mp hl; have := (hdr p hp).len; omega) rfl rfl rfl) .none .none (.some (ev_name rfl)) (type_s _) lk_str (slst_s _ side hside hlet2)
    · show 1 + 3 ≤ _; omega
    · refine Ex.post (ex_cons (sx_callM (d := .none) (f := 45) (ds := (ps.take j).map piece) (as := [.str (S ([c] ++ dots)), .str (S [c])]) R.C rfl R.C.push (R.C.fn 45 (by simp)) (by decide) hk1 hd1 (.cons (fun _ _ => rfl) (ev_name rfl) (.cons (fun _ _ => rfl) (ev_name rfl) .nil)) (push_act R.B R.C R.m1 _ _ _ _ (by rw [List.length_map]; omega)) rfl rfl rfl) ex_nil) (.cons ?_ (.cons ?_ (.cons rfl (.cons rfl (.cons rfl (.cons rfl .nil))))))
      · rw [show (ps.take j ++ [([c] ++ dots, [c])]).map piece = (ps.take j).map piece ++ [.tup [.str (S ([c] ++ dots)), .str (S [c])]] from List.map_append]; rfl
      · rw [← txts_snoc]; rfl
  · have hmt : c ∉ ptext ps := fun q => hm (hmem.mp q)
    have e1 : rStep side (ps, ls) c = (ps ++ [([], [c])], ls) := if_neg hm
    rw [e1, decide_eq_false hmt]
    refine ex_cons (sx_if (b := false) (tv_cmp (ev_name rfl) (ev_cmp (ev_name rfl) (ev_name rfl) (in_false c _ hmt)) (isnot_bb false false)) (fun h => by cases h) (fun _ => ex_nil)) ?_
    refine ex_cons (sx_if (b := false) (tv_bool (ev_name rfl) (fun _ => rfl)) (fun h => by cases h) (fun _ => ex_nil)) ?_
    obtain ⟨cd1, ob1, qual1, pm1, doc1, ct1, hk1, hd1, hc1⟩ := id R.m1
    refine Ex.post (ex_cons (sx_callM (d := .none) (f := 45) (ds := ps.map piece) (as := [.str (S []), .str (S [c])]) R.C rfl R.C.push (R.C.fn 45 (by simp)) (by decide) hk1 hd1 (.cons (fun _ _ => rfl) (ev_name rfl) (.cons (fun _ _ => rfl) (ev_name rfl) .nil)) (push_act R.B R.C R.m1 _ _ _ _ (by rw [List.length_map]; omega)) rfl rfl rfl) ex_nil) (.cons ?_ (.cons rfl (.cons rfl (.cons rfl (.cons rfl (.cons rfl .nil))))))
    rw [show (ps ++ [(([], [c]) : Piece)]).map piece = ps.map piece ++ [.tup [.str (S []), .str (S [c])]] from List.map_append]; rfl
end

theorem letters_map : ∀ {ps : List Piece}, (∀ p ∈ ps, okPiece p) → letters ps = (letters ps).flatten.map fun x => [x]
  | [], _ => rfl
  | p :: ps, h => by
    obtain ⟨c, _, h2, _⟩ := h p (.head _)
    have ih := letters_map fun q hq => h q (.tail _ hq)
    show p.2 :: letters ps = (p.2 ++ (letters ps).flatten).map _
    rw [h2, List.map_append]
    exact congrArg (List.cons [c]) ih
theorem idx_map (c : Nat) : ∀ w : List Nat, (w.map fun x => [x]).idxOf [c] = w.idxOf c
  | [] => rfl
  | x :: w => by
    rw [List.map_cons, List.idxOf_cons, List.idxOf_cons, idx_map c w]
    have : ([x] == [c]) = (x == c) := by
      rw [Bool.eq_iff_iff]; simp
    rw [this]
theorem letters_take (ps : List Piece) (j : Nat) : letters (ps.take j) = (letters ps).take j := by unfold letters; rw [List.map_take]
theorem letters_drop (ps : List Piece) (j : Nat) : letters (ps.drop j) = (letters ps).drop j := by unfold letters; rw [List.map_drop]
theorem flat_one (w : List Nat) : (w.map fun x => [x]).flatten = w := by
  induction w with
  | nil => rfl
  | cons x w ih => rw [List.map_cons, List.flatten_cons, ih]; rfl

/-- the reader's way is the plain one's -/
theorem rStep_plain {side : Int} {ps : List Piece} {ls : List (List Nat)} {c : Nat} (h : ∀ p ∈ ps, okPiece p) :
    (letters (rStep side (ps, ls) c).1).flatten = (plainStep side ((letters ps).flatten, ls) c).1 ∧ (rStep side (ps, ls) c).2 = (plainStep side ((letters ps).flatten, ls) c).2 := by
  have hm := letters_map h
  generalize hw : (letters ps).flatten = w at hm
  have hin : [c] ∈ letters ps ↔ c ∈ w := by rw [hm]; simp
  have hidx : (letters ps).idxOf [c] = w.idxOf c := by rw [hm, idx_map]
  unfold rStep plainStep
  by_cases hc : c ∈ w
  · rw [if_pos (hin.mpr hc), if_pos hc]
    dsimp only
    rw [hidx]
    have e1 : letters (ps.take (w.idxOf c) ++ [(([c] ++ dots, [c]) : Piece)]) = letters (ps.take (w.idxOf c)) ++ [[c]] := List.map_append
    rw [e1, List.flatten_append, letters_take, letters_drop, hm, ← List.map_take, ← List.map_drop, flat_one, flat_one]
    exact ⟨rfl, rfl⟩
  · rw [if_neg (fun q => hc (hin.mp q)), if_neg hc]
    dsimp only
    have e1 : letters (ps ++ [(([], [c]) : Piece)]) = letters ps ++ [[c]] := List.map_append
    rw [e1, List.flatten_append, hw]
    exact ⟨rfl, rfl⟩
theorem rRun_plain (side : Int) : ∀ (l : List Nat) (ps : List Piece) (ls : List (List Nat)), (∀ c ∈ l, c ≠ 46) → (∀ p ∈ ps, okPiece p) →
    (letters (l.foldl (rStep side) (ps, ls)).1).flatten = (l.foldl (plainStep side) ((letters ps).flatten, ls)).1 ∧ (l.foldl (rStep side) (ps, ls)).2 = (l.foldl (plainStep side) ((letters ps).flatten, ls)).2
  | [], ps, ls, _, _ => ⟨rfl, rfl⟩
  | c :: l, ps, ls, hl, h => by
    obtain ⟨h1, h2⟩ := rStep_plain (side := side) (ls := ls) (c := c) h
    have ok := rStep_ok (side := side) (st := (ps, ls)) (hl c (.head _)) h
    rw [List.foldl_cons, List.foldl_cons]
    generalize hq : rStep side (ps, ls) c = q at h1 h2 ok
    obtain ⟨ps', ls'⟩ := q
    have := rRun_plain side l ps' ls' (fun d hd => hl d (.tail _ hd)) ok
    have e : plainStep side ((letters ps).flatten, ls) c = ((letters ps').flatten, ls') := Prod.ext h1.symm h2.symm
    rw [e]
    exact this
theorem rRun_run (side : Int) (text : List Nat) (h : ∀ c ∈ text, c ≠ 46) : (letters (rRun side text).1).flatten = (plainRun side text).1 ∧ (rRun side text).2 = (plainRun side text).2 :=
  rRun_plain side text [] [] h fun p hp => by cases hp
end Mine

namespace Mine
open PySem PySem.Calls PySem.Spec PyProof.Rows PySem.W
set_option maxRecDepth 100000
set_option linter.unusedVariables false
set_option linter.unusedSimpArgs false

theorem cut_last (l : List Nat) : cut l none (some (-1)) = l.dropLast := by
  unfold cut
  simp only [Option.elim]
  rw [show (-1 : Int) = -((1 : Nat) : Int) from rfl, clipAt_neg _ 1 (Nat.le_refl 1), List.drop_zero, Nat.sub_zero, List.dropLast_eq_take]

section
variable {G : Gd} {K : Frag} {Γ : Cx} {σ : Sto}

theorem ev_lenA {n : Nat} {x : Str} {f p pos : Pos} {ps : List Piece} {i : Int} (R : Rdr G K) (hn : Γ.n = n + 2) (hk : Γ.env.kindOf "len" = some .globalImplicit) (hx : σ.lookup x = some (.acc (ps.map piece) i)) (hsm : small ps) (h0 : 0 ≤ i) (h1 : i ≤ 100) (hl : (ptext ps).length ≤ 1000) (hd : (x == ("__debug__" : Str)) = false := by decide) (hn1 : (x == ("__classdict__" : Str)) = false := by decide) :
    Ev G Γ σ (.Call (.Name "len" f) [.Name x p] [] pos) (.int (i + (ptext ps).length)) := by
  refine ev_borrowA hx (call_b (fv_builtin R.B hk R.N.len0 R.N.len1) (.cons (fun _ _ => rfl) (ev_name lk_here hd hn1) .nil) ?_) (.flat trivial)
  rw [hn]
  exact lenA R.C (len_act R.B R.N R.N3 R.Md R.C R.m4 ps i hsm) (by omega) (by omega)

theorem ev_countA {n : Nat} {x : Str} {p ap pos : Pos} {ps : List Piece} {i : Int} {pl : Sem Bool} (R : Rdr G K) (hn : Γ.n = n + 1) (hx : σ.lookup x = some (.acc (ps.map piece) i)) (hl : ps.length ≤ 1000)
    (he : eval (.Call (.Attribute (.Name x p) "part_count" ap) [] [] pos) Γ.env = (do
      let ov ← eval (.Name x p) Γ.env
      standAt ap.atName
      let (f, first) ← holding [ov] (getMethod ov "part_count" pl)
      callWith pos f first (backTo pos (starEach [] Γ.env)) [])) (hd : (x == ("__debug__" : Str)) = false := by decide) (hn1 : (x == ("__classdict__" : Str)) = false := by decide) :
    Ev G Γ σ (.Call (.Attribute (.Name x p) "part_count" ap) [] [] pos) (.int ps.length) := by
  obtain ⟨ob, qual, pm, doc, ct, hk, hd', hc⟩ := id R.m8
  refine ev_borrowA hx (ev_methA R.C (ev_name lk_here hd hn1) R.C.count (R.C.fn 97 (by simp)) (by decide) hk hd' .nil ?_ he) (.flat trivial)
  rw [hn]
  have := count_act (n := n) R.S R.B R.C R.m8 (ps.map piece) i (by rw [List.length_map]; omega)
  rwa [List.length_map] at this
end

noncomputable def readOk (side : Int) (text : List Nat) : Prop :=
  (∀ c ∈ text, c ≠ 46) ∧ (∀ pre c post, text = pre ++ c :: post → stepOk (ptext (rRun side pre).1) c = true) ∧ ell (ptext (rRun side text).1) text = true ∧ ell (ptext (rRun side text).1) (text.drop 1) = false ∧ ell (ptext (rRun side text).1) text.dropLast = false
/-- what the reader says -/
noncomputable def readOf (walk : List Nat) (side : Int) : List Nat := named (sided side (letters (rRun side (sided side walk)).1).flatten) (rRun side (sided side walk)).2

section
variable {G : Gd} {K : Frag}

set_option maxHeartbeats 4000000 in
theorem read_tail {n : Nat} {A : Around} {L : Addr} {pm cd doc : Value} (R : Rdr G K) (walk : List Nat) (side head : Int) (text : List Nat) (st : RSt) (hside : side = 1 ∨ side = -1) (hh0 : 0 ≤ head) (hh1 : head ≤ 100) (h1 : ∀ p ∈ st.1, okPiece p) (hl1 : st.1.length ≤ 60) (hl2 : st.2.length ≤ 60) (htl : text.length ≤ 60) (hrl : ∀ r ∈ st.2, r ≠ [] ∧ r.length ≤ 60)
    (e1 : ell (ptext st.1) text = true) (e2 : ell (ptext st.1) (text.drop 1) = false) (e3 : ell (ptext st.1) text.dropLast = false) :
    Ex G (cx A (n + 2) (defOf (stmtAt 14) pm cd doc) L 147) (readSto walk side head text st) ((bodyOf (stmtAt 14)).drop 2) (.ret (.str (S (named (sided side (letters st.1).flatten) st.2)))) := by
  have hs := sizeLine_eq
  obtain ⟨ps, ls⟩ := st
  replace h1 : ∀ p ∈ ps, okPiece p := h1
  replace hl1 : ps.length ≤ 60 := hl1
  replace hl2 : ls.length ≤ 60 := hl2
  replace hrl : ∀ r ∈ ls, r ≠ [] ∧ r.length ≤ 60 := hrl
  replace e1 : ell (ptext ps) text = true := e1
  replace e2 : ell (ptext ps) (text.drop 1) = false := e2
  replace e3 : ell (ptext ps) text.dropLast = false := e3
  have hsm := small_of h1 (Nat.le_trans hl1 (by decide))
  have hsm0 : small [] := ⟨by simp, fun p hp => by cases hp⟩
  have hpl := ptext_le h1
  have hps : ps.length ≤ sizeLine := by omega
  obtain ⟨ob', pm', cd', doc', hk', hd', hc'⟩ := id R.ellF
  obtain ⟨obn, pmn, cdn, docn, hkn, hdn, hcn⟩ := id R.namedF
  obtain ⟨cd2, ob2, qual2, pm2, doc2, ct2, hk2, hd2, hc2⟩ := id R.m2
  refine ex_cons (sx_swap (ws := [("want", .dat (.str (S (ptext ps)))), ("pieces", .dat (.list (ps.map piece))), ("sizes", .dat (.list (ints' [head + (ptext ps).length, ps.length])))])
    (.cons (fun _ _ => rfl) (evv_dat (ev_strA R rfl rfl rfl hsm)) (by show ("want" : Str) ∉ [("pieces" : Str), "sizes"]; decide)
    (.cons (fun _ _ => rfl) (evv_dat (ev_borrowA (x := "pile") rfl (ev_each (itr_acc R.C (ev_name rfl)) (fun _ => rfl) hps) (.list fun d hd => by obtain ⟨p, _, rfl⟩ := List.mem_map.mp hd; exact piece_noacc p))) (by show ("pieces" : Str) ∉ [("sizes" : Str)]; decide)
    (.cons (fun _ _ => rfl) (evv_dat (ev_list (.cons (fun _ _ => rfl) (ev_lenA R rfl rfl rfl hsm hh0 hh1 (by omega)) (.cons (fun _ _ => rfl) (ev_countA (n := n + 1) R rfl rfl (by omega) rfl) .nil)) (by show 2 ≤ _; omega))) (by show ("sizes" : Str) ∉ []; decide) .nil)))
    (.cons (.loc rfl) (.cons (.loc rfl) (.cons (.loc rfl) .nil))) rfl (by show (3 : Nat) ≤ _; omega) rfl rfl) ?_
  have hpop : ActM G (n + 2) (fun vs => call (.ref 53) vs) (ps.map piece) head [] (.list (ps.map piece)) (([] : List Piece).map piece) :=
    pop_act R.B R.C R.m2 R.d46 _ _ 0 _ (.inr ⟨rfl, rfl⟩) (Nat.zero_le _) (fun d hd => by obtain ⟨p, _, rfl⟩ := List.mem_map.mp hd; exact piece_noacc p) (by rw [List.length_map]; omega)
  refine ex_cons (sx_assignM (y := "gone") (f := 53) (ds := ps.map piece) (as := []) R.C rfl R.C.pop (R.C.fn 53 (by simp)) (by decide) hk2 hd2 .nil hpop rfl (.loc rfl) rfl) ?_
  have hlen0 : (head + ((ptext ([] : List Piece)).length : Int)) = head := by simp [ptext]
  have hadd : Act G (n + 2) (fun vs => binaryOp .Add (vs.getD 0 .none) (vs.getD 1 .none)) [.list (ints' [head + (ptext ps).length, ps.length]), .list [.int (head + ((ptext ([] : List Piece)).length : Int)), .int (([] : List Piece).length : Int)]] (.list (ints' [head + (ptext ps).length, ps.length, head, 0])) := by
    rw [hlen0]
    exact add_ll _ _ (by show 2 + 2 ≤ _; omega)
  have hlenp : Act G (n + 2) (fun vs => call (.builtin "len") vs) [.list (ps.map piece)] (.int ps.length) := by
    have := len_l (G := G) (n := n + 2) (ps.map piece) (by rw [List.length_map]; omega)
    rwa [List.length_map] at this
  have hell1 : Act G (n + 2) (fun vs => call (.ref 125) vs) [.str (S (ptext ps)), .str (S text)] (.bool true) := by
    rw [← e1]; exact ell_act R.B R.N R.N2 R.ellF _ _ (by omega) (by omega)
  have hell2 : Act G (n + 2) (fun vs => call (.ref 125) vs) [.str (S (ptext ps)), .str (S (text.drop 1))] (.bool false) := by
    rw [← e2]; exact ell_act R.B R.N R.N2 R.ellF _ _ (by omega) (by rw [List.length_drop]; omega)
  have hell3 : Act G (n + 2) (fun vs => call (.ref 125) vs) [.str (S (ptext ps)), .str (S text.dropLast)] (.bool false) := by
    rw [← e3]; exact ell_act R.B R.N R.N2 R.ellF _ _ (by omega) (by rw [List.length_dropLast]; omega)
  have hcut : ActSl G (n + 2) none (some (-1)) none (.str (S text)) (.str (S text.dropLast)) := by
    rw [← cut_last]; exact sl_s text none (some (-1)) (by omega)
  refine ex_cons (sx_if (b := false || false) (tv_or (tv_cmp (ev_name rfl) (ev_name rfl) (ne_pieces ps)) (fun _ => tv_cmp (ev_binop (ev_name rfl) (ev_list (.cons (fun _ _ => rfl) (ev_lenA (ps := []) R rfl rfl rfl hsm0 hh0 hh1 (by simp [ptext])) (.cons (fun _ _ => rfl) (ev_countA (n := n + 1) (ps := []) R rfl rfl (by simp) rfl) .nil)) (by show 2 ≤ _; omega)) hadd)
    (ev_list (ds := ints' [head + (ptext ps).length, ps.length, head, 0]) (.cons (fun _ _ => rfl) (ev_binop (ev_name rfl) (call_b (fv_builtin R.B rfl R.N.len0 R.N.len1) (.cons (fun _ _ => rfl) (ev_name rfl) .nil) (len_s (ptext ps) (by omega))) (add_ii _ _)) (.cons (fun _ _ => rfl) (call_b (fv_builtin R.B rfl R.N.len0 R.N.len1) (.cons (fun _ _ => rfl) (ev_name rfl) .nil) hlenp) (.cons (fun _ _ => rfl) (ev_name rfl) (.cons (fun _ _ => rfl) ev_int .nil)))) (by show 4 ≤ _; omega)) (ne_intl _))) (fun h => by cases h) (fun _ => ex_nil)) ?_
  refine ex_cons (sx_if (b := false) (tv_cmp (call_f (fv_global R.B rfl R.ellN) hk' hd' (.cons (fun _ _ => rfl) (ev_name rfl) (.cons (fun _ _ => rfl) (ev_name rfl) .nil)) hell1) ev_bool (isnot_bb true true)) (fun h => by cases h) (fun _ => ex_nil)) ?_
  refine ex_cons (sx_if (b := false || false) (tv_or (tv_cmp (call_f (fv_global R.B rfl R.ellN) hk' hd' (.cons (fun _ _ => rfl) (ev_name rfl) (.cons (fun _ _ => rfl) (ev_slice (ev_name rfl) (.some ev_int) .none .none (type_s _) lk_str (sl_from text 1 (by omega))) .nil)) hell2) ev_bool (isnot_bb false false))
    (fun _ => tv_cmp (call_f (fv_global R.B rfl R.ellN) hk' hd' (.cons (fun _ _ => rfl) (ev_name rfl) (.cons (fun _ _ => rfl) (ev_slice (ev_name rfl) .none (.some (ev_unop ev_int (neg_i 1))) .none (type_s _) lk_str hcut) .nil)) hell3) ev_bool (isnot_bb false false))) (fun h => by cases h) (fun _ => ex_nil)) ?_
  have hlet : ∀ qs : List Piece, (∀ p ∈ qs, okPiece p) → (letters qs).flatten.length = qs.length := fun qs hq => by
    induction qs with
    | nil => rfl
    | cons q qs ih =>
      have := (hq q (.head _)).len.2
      show (q.2 ++ (letters qs).flatten).length = _
      rw [List.length_append, this, ih (fun p hp => hq p (.tail _ hp)), List.length_cons, Nat.add_comm]
  have hlet1 := hlet ps h1
  have hlet2 : (List.map (fun x : Piece => x.2) ps).flatten.length ≤ sizeLine := by
    have : (List.map (fun x : Piece => x.2) ps).flatten.length = ps.length := hlet1
    omega
  refine ex_freeze (x := "loops") (ds := txts ls) rfl (ex_ret (sx_ret ?_))
  refine call_f (fv_global R.B rfl R.namedN) hkn hdn (.cons (fun _ _ => rfl) (ev_slice (ev_join (ev_parts (ps := ps) (itr_list (ev_name rfl)) (fun _ => rfl) hps) (fun _ _ => rfl) (by rw [List.length_map]; omega) (fun l hl => by obtain ⟨p, hp, rfl⟩ := List.mem_map.mp hl; have := (h1 p hp).len; omega) rfl rfl rfl) .none .none (.some (ev_name rfl)) (type_s _) lk_str (slst_s _ side hside hlet2)) (.cons (fun _ _ => rfl) (ev_name rfl) .nil)) ?_
  refine named_act R.B R.N R.namedF _ _ ?_ (by omega) fun r hr => ?_
  · rw [sided_length]
    have : (List.map (fun x : Piece => x.2) ps).flatten.length = ps.length := hlet1
    omega
  · obtain ⟨x, y⟩ := hrl r hr
    exact ⟨x, by omega⟩

set_option maxHeartbeats 4000000 in
theorem read_act {n : Nat} (R : Rdr G K) (hf : FnAt G 147 (stmtAt 14)) (walk : List Nat) (side head : Int) (hside : side = 1 ∨ side = -1) (hh0 : 0 ≤ head) (hh1 : head ≤ 100) (hw : walk.length ≤ 60) (hok : readOk side (sided side walk)) :
    Act G (n + 3) (fun vs => call (.ref 147) vs) [.str (S walk), .int side, .int head] (.str (S (readOf walk side))) := by
  obtain ⟨ob, pm, cd, doc, hk, hd, hc⟩ := hf
  obtain ⟨o1, o2, o3, o4, o5⟩ := hok
  have hs := sizeLine_eq
  have hwl := sided_length side walk
  refine fn_intro (names := ["walk", "side", "head"]) (body := bodyOf (stmtAt 14)) R.B hk hd hc rfl rfl rfl rfl ?_ rfl (by decide) ?_ ?_ rfl rfl rfl ?_
  · intro vs hv
    match vs, hv with
    | [a, b, c], _ => rfl
  · intro x hx
    simp only [List.mem_cons, List.not_mem_nil, or_false] at hx
    rcases hx with rfl | rfl | rfl <;> exact .inl rfl
  · intro L p hp; cases hp
  · intro A L
    refine ex_cons (sx_swap (ws := [("pile", .acc [] head), ("loops", .lst []), ("text", .dat (.str (S (sided side walk))))]) (.cons (fun _ _ => rfl) (evv_make (n := n) R.S R.B R.C R.m0 R.d30 rfl rfl R.acc (ev_name rfl) (fun _ _ => rfl) (fun W e => by cases e) rfl) (by show ("pile" : Str) ∉ [("loops" : Str), "text"]; decide)
      (.cons (fun _ _ => rfl) (evv_nil fun W e => by cases e) (by show ("loops" : Str) ∉ [("text" : Str)]; decide)
      (.cons (fun _ _ => rfl) (evv_dat (ev_slice (ev_name rfl) .none .none (.some (ev_name rfl)) (type_s _) lk_str (slst_s walk side hside (by omega)))) (by show ("text" : Str) ∉ []; decide) .nil)))
      (.cons (.loc rfl) (.cons (.loc rfl) (.cons (.loc rfl) .nil))) rfl (by show (3 : Nat) ≤ _; omega) rfl rfl) ?_
    have hall := rRun_ok side (sided side walk) ([], []) o1 (fun p hp => by cases hp)
    refine ex_cons (σ' := readSto walk side head (sided side walk) (rRun side (sided side walk))) ?_ ?_
    · refine (Sx.pre ?_ (σ := readSto walk side head (sided side walk) ([], [])) ?_)
      · refine sx_for (ds := (sided side walk).map fun c => .str (S [c])) (itr_str (ev_name rfl)) (.loc rfl) (fold_run (fun c => .str (S [c])) (readSto walk side head (sided side walk)) (rStep side) _ _ ?_) (fun x => rfl)
        intro pre c post e
        have hpre := rRun_ok side pre ([], []) (fun d hd => o1 d (by rw [e]; exact List.mem_append.mpr (.inl hd))) (fun p hp => by cases hp)
        have hlen : pre.length < walk.length := by
          have := congrArg List.length e
          rw [hwl, List.length_append, List.length_cons] at this
          omega
        exact read_body R walk side head (sided side walk) (rRun side pre) c hside (o1 c (by rw [e]; exact List.mem_append.mpr (.inr (.head _)))) hpre.1 (Nat.le_trans hpre.2.1 (by show 0 + _ ≤ _; omega)) (Nat.le_trans hpre.2.2 (by show 0 + _ ≤ _; omega)) (o2 pre c post e)
      · exact .cons rfl (.cons rfl (.cons rfl (.cons rfl (.cons rfl (.cons rfl .nil)))))
    · refine read_tail R walk side head (sided side walk) _ hside hh0 hh1 hall.1 (Nat.le_trans hall.2.1 (by show 0 + _ ≤ _; omega)) (Nat.le_trans hall.2.2 (by show 0 + _ ≤ _; omega)) (by omega) ?_ o3 o4 o5
      rw [(rRun_run side _ o1).2]
      intro r hr
      obtain ⟨x, y⟩ := (plain_bounds side (sided side walk)).2.2 r hr
      exact ⟨x, by omega⟩

/-- the reader says what the plain one says, on the same side -/
theorem readOf_plain (walk : List Nat) (side : Int) (h : ∀ c ∈ sided side walk, c ≠ 46) : readOf walk side = plain walk side := by
  obtain ⟨h1, h2⟩ := rRun_run side (sided side walk) h
  unfold readOf plain
  rw [h1, h2]
end
end Mine

namespace Mine
open PySem PySem.Calls PySem.Spec PyProof.Rows PySem.W
set_option maxRecDepth 100000
set_option linter.unusedVariables false
set_option linter.unusedSimpArgs false

/-- y stands in x at k, and ends by hi -/
noncomputable def Oc (x y : List Nat) (hi k : Nat) : Prop := k + y.length ≤ hi ∧ (x.drop k).take y.length = y

theorem at_oc (x y : List Nat) (hi k : Nat) : StrLaws.At (S x) (S y) hi k ↔ Oc x y hi k := by
  unfold StrLaws.At Oc
  rw [S_length, subAt_S, beq_iff_eq]

theorem find3_spec (x y : List Nat) (i hi : Nat) (hh : hi ≤ x.length) (hi' : i ≤ hi) :
    (find3 x y (i : Int) (hi : Int) = -1 ∧ ∀ k, i ≤ k → ¬ Oc x y hi k) ∨ ∃ a : Nat, find3 x y (i : Int) (hi : Int) = (a : Int) ∧ i ≤ a ∧ Oc x y hi a ∧ ∀ k, i ≤ k → k < a → ¬ Oc x y hi k := by
  unfold find3
  have e1 : fromIndex (S x).length (i : Int) = i := by unfold fromIndex; rw [if_neg (by omega)]; omega
  have e2 : min (fromIndex (S x).length (hi : Int)) (S x).length = hi := by
    have : fromIndex (S x).length (hi : Int) = hi := by unfold fromIndex; rw [if_neg (by omega)]; omega
    rw [this, S_length]; omega
  rw [e1, e2, StrLaws.occ_eq]
  rcases StrLaws.occ_first (S x) (S y) hi 1 (Nat.le_refl 1) (List.range' i (hi + 1 - i)) i (fun k hk => (List.mem_range'_1.mp hk).1) with ⟨h0, hn⟩ | ⟨pre, a, post, e, h0, ha, hn⟩
  · refine .inl ⟨by rw [h0], fun k hk ho => ?_⟩
    exact hn k (by have := ho.1; rw [List.mem_range'_1]; omega) ((at_oc ..).mpr ho)
  · have hs := StrLaws.range'_split_from e
    refine .inr ⟨a, ?_, hs.1, (at_oc ..).mp ha, fun k hk0 hk ho => hn k (hs.2 k hk0 hk) ((at_oc ..).mpr ho)⟩
    generalize (forIn (List.range' i (hi + 1 - i)) ((#[] : Array Nat), i) (StrLaws.occBody (S x) (S y) hi 1)).run.fst = arr at h0
    have h1 : arr.toList[0]? = some a := by simpa using h0
    cases hL : arr.toList with
    | nil => rw [hL] at h1; cases h1
    | cons b t => rw [hL] at h1; simp at h1; rw [h1]
end Mine

namespace Mine
open PySem PySem.Calls PySem.Spec PyProof.Rows PySem.W
set_option maxRecDepth 100000
set_option linter.unusedVariables false
set_option linter.unusedSimpArgs false

/-- the words stand in got, one behind the other -/
noncomputable def Fits (got : List Nat) (hi : Nat) : List (List Nat) → Nat → Prop
  | [], lo => True
  | w :: ws, lo => ∃ k, lo ≤ k ∧ Oc got w hi k ∧ Fits got hi ws (k + w.length)

theorem Fits.mono {got : List Nat} {hi : Nat} : ∀ {ws : List (List Nat)} {lo lo' : Nat}, lo' ≤ lo → Fits got hi ws lo → Fits got hi ws lo'
  | [], _, _, _, _ => trivial
  | w :: ws, lo, lo', h, ⟨k, h1, h2, h3⟩ => ⟨k, Nat.le_trans h h1, h2, h3⟩

/-- the first fit does -/
theorem go_fits {got : List Nat} {hi : Nat} (hh : hi ≤ got.length) : ∀ {ws : List (List Nat)} {lo : Nat}, lo ≤ hi → Fits got hi ws lo → ellGo got hi ws lo = true
  | [], _, _, _ => rfl
  | w :: ws, lo, hl, ⟨k, h1, h2, h3⟩ => by
    unfold ellGo
    rcases find3_spec got w lo hi hh hl with ⟨_, hn⟩ | ⟨a, e, ha, hoc, hmin⟩
    · exact absurd h2 (hn k h1)
    · have hak : a ≤ k := by
        rcases Nat.lt_or_ge k a with q | q
        · exact absurd h2 (hmin k h1 q)
        · exact q
      rw [e, if_neg (by omega)]
      have := go_fits hh (lo := a + w.length) hoc.1 (h3.mono (by omega))
      rw [show ((a : Int) + (w.length : Int)) = ((a + w.length : Nat) : Int) by omega]
      exact this

/-- one letter in a text -/
theorem oc_one (l : List Nat) (c k : Nat) (hi : Nat) (hh : hi ≤ l.length) : Oc l [c] hi k ↔ k < hi ∧ l[k]? = some c := by
  unfold Oc
  constructor
  · rintro ⟨h1, h2⟩
    have h1 : k + 1 ≤ hi := h1
    refine ⟨h1, ?_⟩
    have h2 : (l.drop k).take 1 = [c] := h2
    have hk : k < l.length := by omega
    rw [List.drop_eq_getElem_cons hk, List.take_succ_cons, List.take_zero] at h2
    rw [List.getElem?_eq_getElem hk]
    exact congrArg some (List.cons.inj h2).1
  · rintro ⟨h1, h2⟩
    have hk : k < l.length := by omega
    refine ⟨h1, ?_⟩
    show (l.drop k).take 1 = [c]
    rw [List.getElem?_eq_getElem hk] at h2
    rw [List.drop_eq_getElem_cons hk, List.take_succ_cons, List.take_zero, Option.some.inj h2]

theorem split_mark (c : Nat) (hc : c ∈ [97, 98, 99, 100]) : isIn dots (dots ++ [c] ++ dots) = true ∧ splitL (dots ++ [c] ++ dots) = [[], [c], []] := by
  simp only [List.mem_cons, List.not_mem_nil, or_false] at hc
  rcases hc with rfl | rfl | rfl | rfl <;> decide +kernel

theorem oc_nil (l : List Nat) (hi k : Nat) : Oc l [] hi k ↔ k ≤ hi := by
  unfold Oc; simp

/-- said is what it should be -/
theorem stepOk_all (held : List Nat) (c : Nat) (hc : c ∈ [97, 98, 99, 100]) : stepOk held c = true := by
  obtain ⟨h1, h2⟩ := split_mark c hc
  unfold stepOk ell
  rw [h1, if_pos rfl, h2, beq_iff_eq]
  show ellGo held (held.length : Nat) [[], [c], []] (0 : Nat) = _
  by_cases hm : c ∈ held
  · rw [decide_eq_true hm]
    obtain ⟨k, hk, e⟩ := List.getElem_of_mem hm
    refine go_fits (Nat.le_refl _) (Nat.zero_le _) ⟨0, Nat.le_refl _, (oc_nil ..).mpr (Nat.zero_le _), k, Nat.zero_le _, (oc_one _ _ _ _ (Nat.le_refl _)).mpr ⟨hk, by rw [List.getElem?_eq_getElem hk, e]⟩, k + 1, Nat.le_refl _, (oc_nil ..).mpr hk, trivial⟩
  · rw [decide_eq_false hm]
    unfold ellGo
    rcases find3_spec held [] 0 held.length (Nat.le_refl _) (Nat.zero_le _) with ⟨e, hn⟩ | ⟨a, e, ha, hoc, hmin⟩
    · exact absurd ((oc_nil held held.length 0).mpr (Nat.zero_le _)) (hn 0 (Nat.le_refl _))
    · have ha' := (oc_nil _ _ _).mp hoc
      rw [e, if_neg (by omega)]
      unfold ellGo
      rw [show ((a : Int) + (([] : List Nat).length : Int)) = (a : Int) by simp]
      rcases find3_spec held [c] a held.length (Nat.le_refl _) ha' with ⟨e, hn⟩ | ⟨b, e, hb, hoc, hmin⟩
      · rw [e, if_pos (by decide)]
      · obtain ⟨_, hg⟩ := (oc_one _ _ _ _ (Nat.le_refl _)).mp hoc
        exact absurd (List.mem_of_getElem? hg) hm
end Mine

namespace Mine
open PySem PySem.Calls PySem.Spec PyProof.Rows PySem.W
set_option maxRecDepth 100000
set_option linter.unusedVariables false
set_option linter.unusedSimpArgs false

/-- the words of a want -/
noncomputable def spl : List Piece → List Nat × List (List Nat)
  | [] => ([], [])
  | p :: ps => if p.1 = [] then (p.2 ++ (spl ps).1, (spl ps).2) else (p.2, (p.2 ++ (spl ps).1) :: (spl ps).2)

/-- what a piece stands for in the text -/
noncomputable def Seg (p : Piece) (s : List Nat) : Prop := (p.1 = [] ∧ s = p.2) ∨ (p.1 = p.2 ++ dots ∧ ∃ x, s = p.2 ++ x ++ p.2)
inductive Segs : List Piece → List Nat → Prop
  | nil : Segs [] []
  | cons {p : Piece} {ps : List Piece} {s t : List Nat} (h : Seg p s) (r : Segs ps t) : Segs (p :: ps) (s ++ t)

/-- the words stand in T from i on; the last one ends it -/
noncomputable def Ch (T : List Nat) : List Nat → List (List Nat) → Nat → Prop
  | w, [], i => Oc T w T.length i ∧ i + w.length = T.length
  | w, v :: ws, i => Oc T w T.length i ∧ ∃ k, i + w.length ≤ k ∧ Ch T v ws k

theorem oc_app {T u w : List Nat} {i : Nat} (h1 : Oc T u T.length i) (h2 : Oc T w T.length (i + u.length)) : Oc T (u ++ w) T.length i := by
  obtain ⟨a1, a2⟩ := h1
  obtain ⟨b1, b2⟩ := h2
  refine ⟨by rw [List.length_append]; omega, ?_⟩
  rw [List.length_append, List.take_add, a2, List.drop_drop, b2]

theorem ch_app {T u w : List Nat} {ws : List (List Nat)} {i : Nat} (h1 : Oc T u T.length i) (h2 : Ch T w ws (i + u.length)) : Ch T (u ++ w) ws i := by
  cases ws with
  | nil => exact ⟨oc_app h1 h2.1, by have := h2.2; rw [List.length_append]; omega⟩
  | cons v ws =>
    obtain ⟨a, k, b, c⟩ := h2
    exact ⟨oc_app h1 a, k, by rw [List.length_append]; omega, c⟩

theorem oc_mid (a u b : List Nat) : Oc (a ++ u ++ b) u (a ++ u ++ b).length a.length := by
  refine ⟨by simp, ?_⟩
  rw [List.append_assoc, List.drop_left, List.take_left]

theorem ch_of {T : List Nat} : ∀ {ps : List Piece} {t pre : List Nat}, Segs ps t → T = pre ++ t → Ch T (spl ps).1 (spl ps).2 pre.length
  | [], _, pre, .nil, e => by
    subst e
    exact ⟨⟨by simp [spl], by simp [spl]⟩, by simp [spl]⟩
  | p :: ps, _, pre, .cons (s := s) (t := t) h r, e => by
    rcases h with ⟨h1, rfl⟩ | ⟨h1, x, rfl⟩
    · have ih := ch_of (T := T) (pre := pre ++ p.2) r (by rw [e]; simp)
      rw [List.length_append] at ih
      unfold spl
      rw [if_pos h1]
      refine ch_app ?_ ih
      have := oc_mid pre p.2 t
      rwa [List.append_assoc, ← e] at this
    · have ih := ch_of (T := T) (pre := pre ++ p.2 ++ x ++ p.2) r (by rw [e]; simp)
      unfold spl
      rw [if_neg (by rw [h1]; simp [dots])]
      refine ⟨?_, pre.length + p.2.length + x.length, (by show pre.length + p.2.length ≤ _; omega), ch_app ?_ ?_⟩
      · have := oc_mid pre p.2 (x ++ p.2 ++ t)
        have e2 : pre ++ p.2 ++ (x ++ p.2 ++ t) = T := by rw [e]; simp
        rwa [e2] at this
      · have := oc_mid (pre ++ p.2 ++ x) p.2 t
        have e2 : pre ++ p.2 ++ x ++ p.2 ++ t = T := by rw [e]; simp
        have e3 : (pre ++ p.2 ++ x).length = pre.length + p.2.length + x.length := by simp; omega
        rwa [e2, e3] at this
      · have e3 : (pre ++ p.2 ++ x ++ p.2).length = pre.length + p.2.length + x.length + p.2.length := by simp; omega
        rwa [e3] at ih

/-- the middle words fit before the last one -/
theorem ch_fits {T : List Nat} : ∀ {ws : List (List Nat)} {v : List Nat} {k : Nat}, Ch T v ws k → ∀ lo, lo ≤ k →
    Fits T (T.length - ((v :: ws).getLastD []).length) ((v :: ws).dropLast) lo ∧ k ≤ T.length - ((v :: ws).getLastD []).length ∧ Oc T ((v :: ws).getLastD []) T.length (T.length - ((v :: ws).getLastD []).length) ∧ ((v :: ws).getLastD []).length ≤ T.length
  | [], v, k, h, lo, hl => by
    obtain ⟨⟨h1, h2⟩, h3⟩ := h
    have e : T.length - v.length = k := by omega
    refine ⟨trivial, ?_, ?_, ?_⟩
    · show k ≤ T.length - v.length; omega
    · show Oc T v T.length (T.length - v.length); rw [e]; exact ⟨h1, h2⟩
    · show v.length ≤ T.length; omega
  | u :: ws, v, k, h, lo, hl => by
    obtain ⟨h1, k', h2, h3⟩ := h
    obtain ⟨i1, i2, i3, i4⟩ := ch_fits h3 (k + v.length) h2
    have e : (v :: u :: ws).getLastD [] = (u :: ws).getLastD [] := rfl
    have e2 : (v :: u :: ws).dropLast = v :: (u :: ws).dropLast := rfl
    rw [e, e2]
    exact ⟨⟨k, hl, ⟨by omega, h1.2⟩, i1⟩, by omega, i3, i4⟩
end Mine

namespace Mine
open PySem PySem.Calls PySem.Spec PyProof.Rows PySem.W
set_option maxRecDepth 100000
set_option linter.unusedVariables false
set_option linter.unusedSimpArgs false

-- a number, a text, a list of texts, brought to its value first
noncomputable def fn {β : Type} (n : Nat) (f : Nat → β) : β := Nat.rec (motive := fun _ => β) (f 0) (fun k _ => f (Nat.succ k)) n
theorem fn_eq {β : Type} (n : Nat) (f : Nat → β) : fn n f = f n := by cases n <;> rfl
noncomputable def fl {β : Type} (l : List Nat) (f : List Nat → β) : β := List.rec (motive := fun _ => (List Nat → β) → β) (fun k => k []) (fun x _ ih k => fn x fun x => ih fun l => k (x :: l)) l f
theorem fl_eq {β : Type} (l : List Nat) (f : List Nat → β) : fl l f = f l := by
  induction l generalizing f with
  | nil => rfl
  | cons x l ih =>
    show fn x (fun x => fl l fun l => f (x :: l)) = _
    rw [fn_eq, ih]
noncomputable def fll {β : Type} (l : List (List Nat)) (f : List (List Nat) → β) : β := List.rec (motive := fun _ => (List (List Nat) → β) → β) (fun k => k []) (fun x _ ih k => fl x fun x => ih fun l => k (x :: l)) l f
theorem fll_eq {β : Type} (l : List (List Nat)) (f : List (List Nat) → β) : fll l f = f l := by
  induction l generalizing f with
  | nil => rfl
  | cons x l ih =>
    show fl x (fun x => fll l fun l => f (x :: l)) = _
    rw [fl_eq, ih]


noncomputable def shapes : Nat → List Nat → List (List Piece)
  | 0, _ => [[]]
  | n + 1, av => [] :: av.flatMap fun c => (shapes n (av.erase c)).flatMap fun r => [(([], [c]) : Piece) :: r, (([c] ++ dots, [c]) : Piece) :: r]
noncomputable def shapeOk (ps : List Piece) : Bool := decide (splitL (ptext ps) = (spl ps).1 :: (spl ps).2) && (isIn dots (ptext ps) == !(spl ps).2.isEmpty)
noncomputable def shapeChk (ps : List Piece) : Bool := fl (ptext ps) fun t => decide (splitL t = (spl ps).1 :: (spl ps).2) && (isIn dots t == !(spl ps).2.isEmpty)
theorem shapeChk_eq (ps : List Piece) : shapeChk ps = shapeOk ps := by
  unfold shapeChk
  rw [fl_eq]; rfl
noncomputable def shapesAt (c : Nat) : List (List Piece) := (shapes 3 (([97, 98, 99, 100] : List Nat).erase c)).flatMap fun r => [(([], [c]) : Piece) :: r, (([c] ++ dots, [c]) : Piece) :: r]
theorem shapes_a : (shapesAt 97).all shapeChk = true := by decide +kernel
theorem shapes_b : (shapesAt 98).all shapeChk = true := by decide +kernel
theorem shapes_c : (shapesAt 99).all shapeChk = true := by decide +kernel
theorem shapes_d : (shapesAt 100).all shapeChk = true := by decide +kernel
theorem shapes_e : shapeChk [] = true := by decide +kernel
theorem shapes_ok : (shapes 4 [97, 98, 99, 100]).all shapeOk = true := by
  have e : shapes 4 [97, 98, 99, 100] = [] :: (shapesAt 97 ++ (shapesAt 98 ++ (shapesAt 99 ++ (shapesAt 100 ++ [])))) := rfl
  have f : (shapeOk : List Piece → Bool) = shapeChk := funext fun ps => (shapeChk_eq ps).symm
  rw [e, f]
  simp only [List.all_cons, List.all_append, List.all_nil, shapes_a, shapes_b, shapes_c, shapes_d, shapes_e, Bool.and_self]

theorem mem_shapes : ∀ {n : Nat} {av : List Nat} {ps : List Piece}, (∀ p ∈ ps, okPiece p) → (letters ps).flatten.Nodup → (∀ c ∈ (letters ps).flatten, c ∈ av) → ps.length ≤ n → ps ∈ shapes n av
  | 0, av, [], _, _, _, _ => by simp [shapes]
  | 0, av, p :: ps, _, _, _, h => by simp at h
  | n + 1, av, [], _, _, _, _ => by simp [shapes]
  | n + 1, av, p :: ps, h, hn, hs, hl => by
    obtain ⟨c, _, h2, h1⟩ := h p (.head _)
    have e : (letters (p :: ps)).flatten = c :: (letters ps).flatten := by
      show p.2 ++ (letters ps).flatten = _
      rw [h2]; rfl
    rw [e] at hn hs
    have hn' := List.nodup_cons.mp hn
    have ih := mem_shapes (n := n) (av := av.erase c) (fun q hq => h q (.tail _ hq)) hn'.2 (fun d hd => (List.mem_erase_of_ne (fun q => hn'.1 (by rw [← q]; exact hd))).mpr (hs d (.tail _ hd))) (by simpa using hl)
    unfold shapes
    refine .tail _ (List.mem_flatMap.mpr ⟨c, hs c (.head _), List.mem_flatMap.mpr ⟨ps, ih, ?_⟩⟩)
    obtain ⟨a, b⟩ := p
    have h2 : b = [c] := h2
    rcases h1 with h1 | h1
    · have h1 : a = [] := h1
      subst h1 h2; exact .head _
    · have h1 : a = [c] ++ dots := h1
      subst h1 h2; exact .tail _ (.head _)
end Mine

namespace Mine
open PySem PySem.Calls PySem.Spec PyProof.Rows PySem.W
set_option maxRecDepth 100000
set_option linter.unusedVariables false
set_option linter.unusedSimpArgs false

theorem Segs.append : ∀ {a b : List Piece} {s t : List Nat}, Segs a s → Segs b t → Segs (a ++ b) (s ++ t)
  | [], _, _, _, .nil, r => r
  | p :: a, _, _, _, .cons h r, r' => by rw [List.append_assoc]; exact .cons h (r.append r')
theorem Segs.split : ∀ {a b : List Piece} {t : List Nat}, Segs (a ++ b) t → ∃ t1 t2, t = t1 ++ t2 ∧ Segs a t1 ∧ Segs b t2
  | [], b, t, r => ⟨[], t, rfl, .nil, r⟩
  | p :: a, b, _, .cons (s := s) (t := t) h r => by
    obtain ⟨t1, t2, rfl, h1, h2⟩ := Segs.split (a := a) (b := b) r
    exact ⟨s ++ t1, t2, by rw [List.append_assoc], .cons h h1, h2⟩

theorem seg_head {p : Piece} {s : List Nat} (h : Seg p s) : ∃ y, s = p.2 ++ y := by
  rcases h with ⟨_, rfl⟩ | ⟨_, x, rfl⟩
  · exact ⟨[], by simp⟩
  · exact ⟨x ++ p.2, by simp⟩

theorem rStep_segs {side : Int} {ps : List Piece} {ls : List (List Nat)} {c : Nat} {t : List Nat} (h : Segs ps t) : Segs (rStep side (ps, ls) c).1 (t ++ [c]) := by
  unfold rStep
  by_cases hm : [c] ∈ letters ps
  · rw [if_pos hm]
    dsimp only
    have hj : (letters ps).idxOf [c] < (letters ps).length := List.idxOf_lt_length_iff.mpr hm
    have hg : (letters ps)[(letters ps).idxOf [c]] = [c] := List.getElem_idxOf hj
    generalize (letters ps).idxOf [c] = j at hj hg
    have hj' : j < ps.length := by rw [letters, List.length_map] at hj; exact hj
    have hp : ps[j].2 = [c] := by simpa [letters] using hg
    have h' := h
    rw [← List.take_append_drop j ps, List.drop_eq_getElem_cons hj'] at h'
    obtain ⟨t1, t2, rfl, a1, a2⟩ := h'.split
    cases a2 with
    | cons hs hr =>
    rename_i s t3
    obtain ⟨y, rfl⟩ := seg_head hs
    rw [List.append_assoc]
    refine a1.append ?_
    have : Segs [(([c] ++ dots, [c]) : Piece)] (([c] ++ (y ++ t3) ++ [c]) ++ []) := .cons (.inr ⟨rfl, y ++ t3, rfl⟩) .nil
    rw [hp]
    simpa using this
  · rw [if_neg hm]
    exact h.append (by have : Segs [(([], [c]) : Piece)] ([c] ++ []) := .cons (.inl ⟨rfl, rfl⟩) .nil
                       simpa using this)

theorem rRun_segs (side : Int) : ∀ (l : List Nat) (ps : List Piece) (ls : List (List Nat)) (t : List Nat), Segs ps t → Segs (l.foldl (rStep side) (ps, ls)).1 (t ++ l)
  | [], ps, ls, t, h => by simpa using h
  | c :: l, ps, ls, t, h => by
    have := rStep_segs (side := side) (ls := ls) (c := c) h
    rw [List.foldl_cons]
    generalize rStep side (ps, ls) c = q at this
    obtain ⟨ps', ls'⟩ := q
    have := rRun_segs side l ps' ls' (t ++ [c]) this
    simpa using this
end Mine

namespace Mine
open PySem PySem.Calls PySem.Spec PyProof.Rows PySem.W
set_option maxRecDepth 100000
set_option linter.unusedVariables false
set_option linter.unusedSimpArgs false

theorem not_before {w : List Nat} {c : Nat} : c ∉ w.take (w.idxOf c) := fun h => by
  obtain ⟨i, hi, e⟩ := List.getElem_of_mem h
  rw [List.length_take] at hi
  rw [List.getElem_take] at e
  exact before_idx c w i (by omega) (by omega) e

theorem plain_way (side : Int) : ∀ (l w : List Nat) (ls : List (List Nat)) (av : List Nat), w.Nodup → (∀ c ∈ w, c ∈ av) → (∀ c ∈ l, c ∈ av) →
    (l.foldl (plainStep side) (w, ls)).1.Nodup ∧ ∀ c ∈ (l.foldl (plainStep side) (w, ls)).1, c ∈ av
  | [], w, ls, av, h1, h2, _ => ⟨h1, h2⟩
  | c :: l, w, ls, av, h1, h2, h3 => by
    rw [List.foldl_cons]
    have hc := h3 c (.head _)
    have h3' : ∀ d ∈ l, d ∈ av := fun d hd => h3 d (.tail _ hd)
    by_cases hm : c ∈ w
    · have e : plainStep side (w, ls) c = (w.take (w.idxOf c) ++ [c], ls ++ [sided side (w.drop (w.idxOf c))]) := if_pos hm
      rw [e]
      refine plain_way side l _ _ av ?_ ?_ h3'
      · rw [List.nodup_append]
        refine ⟨h1.sublist (List.take_sublist _ _), by simp, fun a ha b hb q => ?_⟩
        rw [List.mem_singleton.mp hb] at q
        exact not_before (q ▸ ha)
      · intro d hd
        rcases List.mem_append.mp hd with hd | hd
        · exact h2 d (List.mem_of_mem_take hd)
        · rw [List.mem_singleton.mp hd]; exact hc
    · have e : plainStep side (w, ls) c = (w ++ [c], ls) := if_neg hm
      rw [e]
      refine plain_way side l _ _ av ?_ ?_ h3'
      · rw [List.nodup_append]
        refine ⟨h1, by simp, fun a ha b hb q => ?_⟩
        rw [List.mem_singleton.mp hb] at q
        exact hm (q ▸ ha)
      · intro d hd
        rcases List.mem_append.mp hd with hd | hd
        · exact h2 d hd
        · rw [List.mem_singleton.mp hd]; exact hc
end Mine

namespace Mine
open PySem PySem.Calls PySem.Spec PyProof.Rows PySem.W
set_option maxRecDepth 100000
set_option linter.unusedVariables false
set_option linter.unusedSimpArgs false

theorem starts_oc (T w : List Nat) : starts T w = true ↔ Oc T w T.length 0 := by
  unfold starts Txt.startswith Oc
  rw [S_length, S_length, subAt_S]
  simp
theorem ends_oc (T w : List Nat) : ends T w = true ↔ w.length ≤ T.length ∧ Oc T w T.length (T.length - w.length) := by
  unfold ends Txt.endswith Oc
  rw [S_length, S_length, subAt_S]
  simp
  omega

/-- words that stand in the text: the match says so -/
theorem ellA_ch {T w0 v : List Nat} {ws : List (List Nat)} (h : Ch T w0 (v :: ws) 0) (h0 : w0 ≠ []) (hl : (v :: ws).getLastD [] ≠ []) : ellA T (w0 :: v :: ws) = true := by
  obtain ⟨a, k, hk, c⟩ := h
  obtain ⟨f1, f2, f3, f4⟩ := ch_fits c w0.length (by omega)
  unfold ellA
  show (if w0 ≠ [] then (if starts T w0 then ellB T (v :: ws) w0.length else false) else ellB T (w0 :: v :: ws) 0) = true
  rw [if_pos h0, if_pos ((starts_oc ..).mpr a)]
  unfold ellB
  rw [if_pos hl, if_pos ((ends_oc ..).mpr ⟨f4, f3⟩)]
  unfold ellC
  have hlo : w0.length ≤ T.length - ((v :: ws).getLastD []).length := by omega
  rw [show ((T.length : Int) - (((v :: ws).getLastD []).length : Int)) = ((T.length - ((v :: ws).getLastD []).length : Nat) : Int) by omega, if_neg (by omega)]
  exact go_fits (Nat.sub_le _ _) hlo f1
end Mine

namespace Mine
open PySem PySem.Calls PySem.Spec PyProof.Rows PySem.W
set_option maxRecDepth 100000
set_option linter.unusedVariables false
set_option linter.unusedSimpArgs false

theorem spl_plain : ∀ {ps : List Piece}, (∀ p ∈ ps, okPiece p) → (spl ps).2 = [] → ptext ps = (spl ps).1
  | [], _, _ => rfl
  | p :: ps, h, e => by
    unfold spl at e ⊢
    by_cases hp : p.1 = []
    · rw [if_pos hp] at e ⊢
      have ih := spl_plain (fun q hq => h q (.tail _ hq)) e
      show (p.1 ++ p.2) ++ ptext ps = p.2 ++ (spl ps).1
      rw [hp, ih]; rfl
    · rw [if_neg hp] at e; cases e
theorem spl_words : ∀ {ps : List Piece}, (∀ p ∈ ps, okPiece p) → ∀ w ∈ (spl ps).2, w ≠ []
  | [], _, w, hw => by cases hw
  | p :: ps, h, w, hw => by
    obtain ⟨c, _, h2, _⟩ := h p (.head _)
    have ih := spl_words (ps := ps) fun q hq => h q (.tail _ hq)
    unfold spl at hw
    split at hw
    · exact ih w hw
    · rcases List.mem_cons.mp hw with rfl | hw
      · rw [h2]; simp
      · exact ih w hw
theorem spl_first {ps : List Piece} (h : ∀ p ∈ ps, okPiece p) (hne : ps ≠ []) : (spl ps).1 ≠ [] := by
  cases ps with
  | nil => exact absurd rfl hne
  | cons p ps =>
    obtain ⟨c, _, h2, _⟩ := h p (.head _)
    unfold spl
    split <;> simp [h2]

theorem oc_get {T w : List Nat} {hi i j : Nat} (h : Oc T w hi i) (hj : j < w.length) (hh : hi ≤ T.length) : T[i + j]? = w[j]? := by
  obtain ⟨h1, h2⟩ := h
  have : ((T.drop i).take w.length)[j]? = T[i + j]? := by rw [List.getElem?_take, if_pos hj, List.getElem?_drop]
  rw [← this, h2]

/-- neighbours are unlike -/
noncomputable def Unlike (T : List Nat) : Prop := ∀ i x y, T[i]? = some x → T[i + 1]? = some y → x ≠ y

theorem not_starts {T w : List Nat} (hu : Unlike T) (h : Oc T w T.length 0) (hw : w ≠ []) : starts (T.drop 1) w = false := by
  cases e : starts (T.drop 1) w with
  | false => rfl
  | true =>
    have h' := (starts_oc ..).mp e
    have hl : 0 < w.length := List.length_pos_iff.mpr hw
    have a := oc_get h hl (Nat.le_refl _)
    have b := oc_get h' hl (Nat.le_refl _)
    rw [List.getElem?_drop] at b
    rw [List.getElem?_eq_getElem hl] at a b
    exact absurd rfl (hu 0 _ _ (by simpa using a) (by simpa using b))
theorem not_ends {T w : List Nat} (hu : Unlike T) (h : Oc T w T.length (T.length - w.length)) (hle : w.length ≤ T.length) (hw : w ≠ []) : ends T.dropLast w = false := by
  cases e : ends T.dropLast w with
  | false => rfl
  | true =>
    obtain ⟨h0, h'⟩ := (ends_oc ..).mp e
    rw [List.length_dropLast] at h0 h'
    have hl : 0 < w.length := List.length_pos_iff.mpr hw
    have hj : w.length - 1 < w.length := by omega
    have a := oc_get h hj (Nat.le_refl _)
    have b := oc_get h' hj (by rw [List.length_dropLast]; exact Nat.le_refl _)
    rw [List.getElem?_eq_getElem hj] at a b
    rw [List.dropLast_eq_take, List.getElem?_take, if_pos (by omega)] at b
    refine absurd rfl (hu (T.length - 1 - w.length + (w.length - 1)) _ _ b ?_)
    rw [← a]
    congr 1; omega
end Mine

namespace Mine
open PySem PySem.Calls PySem.Spec PyProof.Rows PySem.W
set_option maxRecDepth 100000
set_option linter.unusedVariables false
set_option linter.unusedSimpArgs false

theorem ends_ok {T : List Nat} {ps : List Piece} (h : ∀ p ∈ ps, okPiece p) (hs : Segs ps T) (hne : ps ≠ []) (hsh : shapeOk ps = true) (hu : Unlike T) (hT : T ≠ []) :
    ell (ptext ps) T = true ∧ ell (ptext ps) (T.drop 1) = false ∧ ell (ptext ps) T.dropLast = false := by
  have hc : Ch T (spl ps).1 (spl ps).2 0 := ch_of (pre := []) hs rfl
  unfold shapeOk at hsh
  rw [Bool.and_eq_true] at hsh
  have hsp := of_decide_eq_true hsh.1
  have hin := eq_of_beq hsh.2
  have hTl : 0 < T.length := List.length_pos_iff.mpr hT
  have h0 := spl_first h hne
  have hw := spl_words h
  have hp := spl_plain h
  generalize spl ps = q at hc hsp hin h0 hw hp
  obtain ⟨w0, ws⟩ := q
  cases ws with
  | nil =>
    have hin : isIn dots (ptext ps) = false := by rw [hin]; rfl
    obtain ⟨⟨a1, a2⟩, a3⟩ := hc
    have a3 : 0 + w0.length = T.length := a3
    have e : w0 = T := by
      have a2 : (T.drop 0).take w0.length = w0 := a2
      rw [List.drop_zero, List.take_of_length_le (by omega)] at a2
      exact a2.symm
    have hp : ptext ps = T := by rw [hp rfl]; exact e
    unfold ell
    rw [hin, hp]
    simp only [Bool.false_eq_true, if_false]
    refine ⟨beq_self_eq_true _, beq_eq_false_iff_ne.mpr fun q => ?_, beq_eq_false_iff_ne.mpr fun q => ?_⟩
    · have := congrArg List.length q; rw [List.length_drop] at this; omega
    · have := congrArg List.length q; rw [List.length_dropLast] at this; omega
  | cons v ws =>
    have hin : isIn dots (ptext ps) = true := by rw [hin]; rfl
    have hl : (v :: ws).getLastD [] ≠ [] := hw _ (by
      have : (v :: ws).getLastD [] = (v :: ws).getLast (by simp) := by rw [List.getLastD_eq_getLast?, List.getLast?_eq_some_getLast (by simp)]; rfl
      rw [this]; exact List.getLast_mem _)
    have hcc := hc
    obtain ⟨a, k, hk, c⟩ := hcc
    replace hk : 0 + w0.length ≤ k := hk
    obtain ⟨f1, f2, f3, f4⟩ := ch_fits c w0.length (by omega)
    unfold ell
    rw [hin, if_pos rfl, if_pos rfl, if_pos rfl, hsp]
    refine ⟨ellA_ch hc h0 hl, ?_, ?_⟩
    · show (if w0 ≠ [] then (if starts (T.drop 1) w0 then ellB (T.drop 1) (v :: ws) w0.length else false) else ellB (T.drop 1) (w0 :: v :: ws) 0) = false
      rw [if_pos h0, not_starts hu a h0]; rfl
    · show (if w0 ≠ [] then (if starts T.dropLast w0 then ellB T.dropLast (v :: ws) w0.length else false) else ellB T.dropLast (w0 :: v :: ws) 0) = false
      rw [if_pos h0]
      have : ellB T.dropLast (v :: ws) w0.length = false := by
        unfold ellB
        rw [if_pos hl, not_ends hu f3 f4 hl]; rfl
      rw [this]; split <;> rfl
end Mine

namespace Mine
open PySem PySem.Calls PySem.Spec PyProof.Rows PySem.W
set_option maxRecDepth 100000
set_option linter.unusedVariables false
set_option linter.unusedSimpArgs false

theorem len_sub : ∀ (l av : List Nat), l.Nodup → (∀ c ∈ l, c ∈ av) → l.length ≤ av.length
  | [], _, _, _ => Nat.zero_le _
  | x :: l, av, hn, hs => by
    have hn' := List.nodup_cons.mp hn
    have hx := hs x (.head _)
    have := len_sub l (av.erase x) hn'.2 fun d hd => (List.mem_erase_of_ne (fun q => hn'.1 (by rw [← q]; exact hd))).mpr (hs d (.tail _ hd))
    rw [List.length_erase_of_mem hx] at this
    have := List.length_pos_of_mem hx
    rw [List.length_cons]; omega

/-- every text of the four letters, neighbours unlike, is read well -/
theorem readOk_all {side : Int} {T : List Nat} (hT : T ≠ []) (ha : ∀ c ∈ T, c ∈ [97, 98, 99, 100]) (hu : Unlike T) : readOk side T := by
  have h46 : ∀ c ∈ T, c ≠ 46 := fun c hc q => by
    have := ha c hc
    rw [q] at this
    revert this; decide
  have hall := (rRun_ok side T ([], []) h46 fun p hp => by cases hp).1
  obtain ⟨r1, _⟩ := rRun_run side T h46
  obtain ⟨n1, n2⟩ := plain_way side T [] [] [97, 98, 99, 100] List.nodup_nil (fun c hc => by cases hc) ha
  have hs : Segs (rRun side T).1 T := rRun_segs side T [] [] [] .nil
  have hne : (rRun side T).1 ≠ [] := fun q => by
    rw [q] at hs
    cases hs
    exact hT rfl
  have hfl : (letters (rRun side T).1).flatten.Nodup := by rw [r1]; exact n1
  have hsub : ∀ c ∈ (letters (rRun side T).1).flatten, c ∈ [97, 98, 99, 100] := by rw [r1]; exact n2
  have hlen : (rRun side T).1.length ≤ 4 := by
    have h1 := letters_map (ps := (rRun side T).1) hall
    have h2 : (rRun side T).1.length = (letters (rRun side T).1).flatten.length := by
      have := congrArg List.length h1
      rw [List.length_map] at this
      rw [← this]; unfold letters; rw [List.length_map]
    rw [h2]
    exact len_sub _ _ hfl hsub
  have hsh : shapeOk (rRun side T).1 = true := List.all_eq_true.mp shapes_ok _ (mem_shapes hall hfl hsub hlen)
  obtain ⟨e1, e2, e3⟩ := ends_ok hall hs hne hsh hu hT
  exact ⟨h46, fun pre c post e => stepOk_all _ c (ha c (by rw [e]; exact List.mem_append.mpr (.inr (.head _)))), e1, e2, e3⟩
end Mine

namespace Mine
open PySem PySem.Calls PySem.Spec PyProof.Rows PySem.W
set_option maxRecDepth 100000
set_option linter.unusedVariables false
set_option linter.unusedSimpArgs false

/-- the seven numbers -/
noncomputable def srcOf (xs : List Int) : List Int := xs.take 7 ++ ([9, 112, 13, 66, 100, 13, 30] : List Int).drop (xs.take 7).length
noncomputable def givenOf (xs : List Int) : List Nat := (srcOf xs).map fun x => (x % 1000000).toNat
theorem srcOf_length (xs : List Int) : (srcOf xs).length = 7 := by
  unfold srcOf
  rw [List.length_append, List.length_drop, List.length_take]
  show min 7 xs.length + (7 - min 7 xs.length) = 7
  omega
theorem givenOf_length (xs : List Int) : (givenOf xs).length = 7 := by
  unfold givenOf
  rw [List.length_map, srcOf_length]
noncomputable def stepsOf (w : List Nat) : List (List Nat) := (List.range 7).map fun n => (w.drop n).take 2
noncomputable def everyOf (w : List Nat) : List (List Nat) := walksL 7 97 (sortL (stepsOf w))
noncomputable def frontOf (t : Nat) : Int := (t : Int) / 4 % 2 * 2 - 1
theorem frontOf_or (t : Nat) : frontOf t = 1 ∨ frontOf t = -1 := by unfold frontOf; omega

theorem stepsOf_length (w : List Nat) : (stepsOf w).length = 7 := by unfold stepsOf; rw [List.length_map, List.length_range]
theorem stepsOf_two {w : List Nat} (hw : w.length = 8) : ∀ x ∈ stepsOf w, x.length = 2 := fun x hx => by
  obtain ⟨n, hn, rfl⟩ := List.mem_map.mp hx
  have := List.mem_range.mp hn
  rw [List.length_take, List.length_drop, hw]; omega

theorem cut_both (l : List α) (a b : Nat) (h : b ≤ l.length) (hab : a ≤ b) : cut l (some (a : Int)) (some (b : Int)) = (l.drop a).take (b - a) := by
  unfold cut
  simp only [Option.elim]
  have e1 : clipAt l.length (a : Int) = a := by
    have := clipAt_cast l.length (a : Int)
    omega
  have e2 : clipAt l.length (b : Int) = b := by
    have := clipAt_cast l.length (b : Int)
    omega
  rw [e1, e2]

theorem look2 {y z x : Str} {W W' V : Vl} (h : [(y, W), (z, W')].lookup x = some V) : (x = y ∧ V = W) ∨ (x = z ∧ V = W') := by
  rw [List.lookup_cons] at h
  cases e : x == y with
  | true => rw [e] at h; simp at h; exact .inl ⟨eq_of_beq e, h.symm⟩
  | false => rw [e] at h; exact .inr (look1 h)

/-- what the law asks of the walks -/
structure LawOk (w : List Nat) : Prop where
  few : (everyOf w).length < 64
  good : ∀ r ∈ everyOf w, r.length ≤ 60 ∧ ∀ side, readOk side (sided side r)
  same : sortL ((everyOf w).map fun r => plain r 1) = sortL ((everyOf w).map fun r => plain r (-1))

section
variable {G : Gd} {n : Nat}
theorem p106 : Act G n (fun vs => binaryOp .Pow (vs.getD 0 .none) (vs.getD 1 .none)) [.int 10, .int 6] (.int 1000000) := by
  have := pow_ii (G := G) (n := n) 10 6 (by omega) (by decide) (by decide) (by decide) (by
    have : Builtin.Int.intBits 10 = 4 := by decide +kernel
    rw [this]
    unfold Builtin.Int.intTooBig
    rw [bitsLine_eq]
    simp)
  simpa using this
end
end Mine

namespace Mine
open PySem PySem.Calls PySem.Spec PyProof.Rows PySem.W
set_option maxRecDepth 100000
set_option linter.unusedVariables false
set_option linter.unusedSimpArgs false

section
variable {G : Gd} {K : Frag}

theorem step_cut {n : Nat} {w : List Nat} (hw : w.length = 8) {k : Nat} (hk : k < 7) : ActSl G n (some (k : Int)) (some ((k : Int) + 2)) none (.str (S w)) (.str (S ((w.drop k).take 2))) := by
  have : (w.drop k).take 2 = cut w (some (k : Int)) (some ((k : Int) + 2)) := by
    have := cut_both w k (k + 2) (by omega) (by omega)
    rw [show ((k : Int) + 2) = ((k + 2 : Nat) : Int) by omega, this, show k + 2 - k = 2 by omega]
  have hs := sizeLine_eq
  rw [this]; exact sl_s w _ _ (by omega)

theorem add_ne (L k : Nat) (h : 0 < k) : L + k ≠ L := by omega
theorem given_nat (xs : List Int) : (srcOf xs).map (fun x => D.int (x % 1000000)) = natD (givenOf xs) := by
  unfold natD givenOf
  rw [List.map_map]
  refine List.map_congr_left fun x _ => ?_
  show D.int (x % 1000000) = D.int (((x % 1000000).toNat : Nat) : Int)
  rw [Int.toNat_of_nonneg (Int.emod_nonneg _ (by decide))]

set_option maxHeartbeats 4000000 in
theorem law_ex (R : Rdr G K) (C : Cols) (hw : FnAt G 132 (stmtAt 11)) (hwg : G.mg "_law_walk" = some (.ref 132)) (hh : FnAt G 118 (stmtAt 6)) (hhg : G.mg "hsv_to_rgb" = some (.ref 118)) (hl : FnAt G 111 (stmtAt 5)) (hlg : G.mg "rgb_to_hls" = some (.ref 111))
    (hk : FnAt G 137 (stmtAt 12)) (hkg : G.mg "_law_walks" = some (.ref 137)) (hr : FnAt G 147 (stmtAt 14)) (hrg : G.mg "_law_read" = some (.ref 147)) (hp : FnAt G 154 (stmtAt 15)) (hpg : G.mg "_law_plain" = some (.ref 154))
    (xs : List Int) (hx : xs.length ≤ 63) (hlaw : LawOk (walkOf (givenOf xs))) (pm cd doc : Value) (A : Around) (L : Addr) :
    Ex G (cx A 9 (defOf (stmtAt 16) pm cd doc) L 159) (List.zip ["script"] (List.map Vl.dat [.list (xs.map .int)])) (bodyOf (stmtAt 16)) (.ret (.bool true)) := by
  obtain ⟨obw, pmw, cdw, docw, hkw, hdw, hcw⟩ := id hw
  obtain ⟨obk, pmk, cdk, dock, hkk, hdk, hck⟩ := id hk
  obtain ⟨obr, pmr, cdr, docr, hkr, hdr, hcr⟩ := id hr
  obtain ⟨obp, pmp, cdp, docp, hkp, hdp, hcp⟩ := id hp
  have hs := sizeLine_eq
  have hgl := givenOf_length xs
  have hwl : (walkOf (givenOf xs)).length = 8 := by unfold walkOf; rw [walk_len, hgl]; rfl
  have hwalk : Act G 9 (fun vs => call (.ref 132) vs) [.list (natD (givenOf xs))] (.str (S (walkOf (givenOf xs)))) := walk_act R.B R.N R.N3 C hw hh hhg hl hlg _ (by omega)
  have hsum : Act G 9 (fun vs => call (.builtin "sum") vs) [.list (natD (givenOf xs))] (.int ((givenOf xs).sum : Nat)) := by
    have := sum_is (G := G) (n := 9) ((givenOf xs).map fun x : Nat => (x : Int))
    rwa [sum_cast, List.map_map] at this
  have htake : (xs.map D.int).take 7 = (xs.take 7).map D.int := List.map_take.symm
  have hlen7 : Act G 9 (fun vs => call (.builtin "len") vs) [.list ((xs.take 7).map D.int)] (.int (xs.take 7).length) := by
    have := len_l (G := G) (n := 9) ((xs.take 7).map D.int) (by rw [List.length_map, List.length_take]; omega)
    rwa [List.length_map] at this
  have hsl7 : ActSl G 9 none (some 7) none (.list (xs.map D.int)) (.list ((xs.take 7).map D.int)) := by
    have e : (xs.take 7).map D.int = cut (xs.map D.int) none (some ((7 : Nat) : Int)) := by rw [cut_to, htake]
    rw [e]; exact sl_l _ _ _ (by rw [List.length_map]; omega)
  have hslr : ActSl G 9 (some ((xs.take 7).length : Int)) none none (.list (([9, 112, 13, 66, 100, 13, 30] : List Int).map D.int)) (.list ((([9, 112, 13, 66, 100, 13, 30] : List Int).drop (xs.take 7).length).map D.int)) := by
    have e : (([9, 112, 13, 66, 100, 13, 30] : List Int).drop (xs.take 7).length).map D.int = cut (([9, 112, 13, 66, 100, 13, 30] : List Int).map D.int) (some ((xs.take 7).length : Int)) none := by rw [cut_from, List.map_drop]
    rw [e]; exact sl_l _ _ _ (by show 7 ≤ _; omega)
  have hadd : Act G 9 (fun vs => binaryOp .Add (vs.getD 0 .none) (vs.getD 1 .none)) [.list ((xs.take 7).map D.int), .list ((([9, 112, 13, 66, 100, 13, 30] : List Int).drop (xs.take 7).length).map D.int)] (.list ((srcOf xs).map D.int)) := by
    have e : (srcOf xs).map D.int = (xs.take 7).map D.int ++ (([9, 112, 13, 66, 100, 13, 30] : List Int).drop (xs.take 7).length).map D.int := List.map_append
    rw [e]
    have := srcOf_length xs
    unfold srcOf at this
    rw [List.length_append] at this
    exact add_ll _ _ (by rw [List.length_map, List.length_map]; omega)
  obtain ⟨hfew, hgood, hsame⟩ := hlaw
  generalize hW : walkOf (givenOf xs) = w at hwl hwalk hfew hgood hsame
  generalize hT : (givenOf xs).sum = t at hsum
  have hst2 := stepsOf_two hwl
  have hperm := sortL_perm (stepsOf w)
  have hwalks : Act G 9 (fun vs => call (.ref 137) vs) [.str (S [97]), .list (txts (sortL (stepsOf w)))] (.list (txts (everyOf w))) :=
    (walks_act R.B R.N hk hkg 7 97 (sortL (stepsOf w)) (by rw [hperm.length_eq, stepsOf_length]) (Nat.le_refl 7) (fun x hx => hst2 x (hperm.mem_iff.mp hx))).mono (by omega)
  have hfront := frontOf_or t
  have hneg : -frontOf t = 1 ∨ -frontOf t = -1 := by omega
  generalize hev : everyOf w = ev at hwalks hfew hgood hsame
  refine ex_cons (σ' := upd (List.zip ["script"] (List.map Vl.dat [.list (xs.map .int)])) "given" (.dat (.list (natD (givenOf xs))))) ?_ ?_
  · rw [← given_nat]
    refine sx_comp (cl := []) (σc := []) (ds := (srcOf xs).map D.int) (itr_list (ev_binop (ev_slice (ev_name rfl) .none (.some ev_int) .none (type_l _) lk_list hsl7) (ev_slice (ev_list (.cons (fun _ _ => rfl) ev_int (.cons (fun _ _ => rfl) ev_int (.cons (fun _ _ => rfl) ev_int (.cons (fun _ _ => rfl) ev_int (.cons (fun _ _ => rfl) ev_int (.cons (fun _ _ => rfl) ev_int (.cons (fun _ _ => rfl) ev_int .nil))))))) (by show 7 ≤ _; omega)) (.some (call_b (fv_builtin R.B rfl R.N.len0 R.N.len1) (.cons (fun _ _ => rfl) (ev_slice (ev_name rfl) .none (.some ev_int) .none (type_l _) lk_list hsl7) .nil) hlen7)) .none .none (type_l _) lk_list hslr) hadd)) ⟨fun x => rfl, rfl, rfl, by decide, ?_, ?_, ?_⟩ ?_ (by rw [List.length_map, srcOf_length]; omega) (.loc rfl) rfl
    · intro x c h; cases h
    · intro C p hp; cases hp
    · intro C x V e; cases e
    · intro C
      refine each_map _ _ _ fun x hx => ⟨_, asg_name (.loc rfl), upd_keeps rfl, ?_⟩
      exact ev_binop (ev_name rfl) (ev_binop ev_int ev_int p106) (mod_ii _ 1000000 (by omega))
  refine ex_cons (sx_assign (call_f (fv_global R.B rfl hwg) hkw hdw (.cons (fun _ _ => rfl) (ev_name rfl) .nil) hwalk) (.cell (L + 1) rfl rfl (by show L + 1 ∈ [L, L + 1 + 2, L + 1 + 1, L + 1]; simp) (Nat.succ_ne_self L)) rfl) ?_
  have hne : (w == ([] : List Nat)) = false := by
    match w, hwl with
    | _ :: _, _ => rfl
  refine ex_cons (sx_if (b := w == []) (tv_cmp (ev_name rfl) (ev_txt (l := []) rfl) (eq_ss w [])) (fun h => by rw [hne] at h; cases h) (fun _ => ex_nil)) ?_
  refine ex_cons (sx_assign (call_b (fv_builtin R.B rfl R.N3.sum0 R.N3.sum1) (.cons (fun _ _ => rfl) (ev_name rfl) .nil) hsum) (.cell (L + 2) rfl rfl (by show L + 2 ∈ [L, L + 1 + 2, L + 1 + 1, L + 1]; exact .tail _ (.tail _ (.head _))) (add_ne L 2 (by decide))) rfl) ?_
  refine ex_cons (sx_assign (d := .int (frontOf t)) (ev_binop (ev_binop (ev_binop (ev_binop (ev_name rfl) ev_int (fdivS _ 4 (by omega) (by omega))) ev_int (mod_ii _ 2 (by omega))) ev_int (mulS _ _ (by omega) (by omega))) ev_int (sub_ii _ _)) (.cell (L + 3) rfl rfl (by show L + 3 ∈ [L, L + 1 + 2, L + 1 + 1, L + 1]; exact .tail _ (.head _)) (add_ne L 3 (by decide))) rfl) ?_
  refine ex_cons (sx_assign (call_f (fv_global R.B rfl hkg) hkk hdk (.cons (fun _ _ => rfl) (ev_txt (l := [97]) rfl) (.cons (fun _ _ => rfl) (call_b (fv_builtin R.B rfl R.N.sorted0 R.N.sorted1) (.cons (fun _ _ => rfl) (?_ : Ev _ _ _ _ (.list (txts (stepsOf w)))) .nil) (sorted_ls _ (by rw [stepsOf_length]; omega))) .nil)) hwalks) (.loc rfl) rfl) ?_
  · rw [show txts (stepsOf w) = (List.range 7).map (fun k => D.str (S ((w.drop k).take 2))) from List.map_map ..]
    refine ev_comp (cl := [("drawn", L + 1)]) (σc := [("drawn", .dat (.str (S w)))]) (ds := (List.range 7).map fun (i : Nat) => .int i) (itr_range (fv_builtin R.B rfl R.N.range0 R.N.range1) ev_int (fun _ _ => rfl) (by omega)) ⟨fun x => rfl, rfl, rfl, by decide, ?_, ?_, ?_⟩ ?_ (by rw [List.length_map, List.length_range]; omega)
    · intro x c h; obtain ⟨rfl, rfl⟩ := Prod.mk.inj (List.mem_singleton.mp h); rfl
    · intro C p hp; cases hp
    · intro C x V e
      obtain ⟨rfl, rfl⟩ := look1 e
      exact ⟨_, L + 1, rfl, rfl, .inl rfl, .inl rfl, rfl, rfl⟩
    · intro C
      refine each_map _ _ _ fun k hk => ⟨_, asg_name (.loc rfl), upd_keeps rfl, ?_⟩
      exact ev_slice (ev_name rfl) (.some (ev_name rfl)) (.some (ev_binop (ev_name rfl) ev_int (add_ii _ _))) .none (type_s _) lk_str (step_cut hwl (List.mem_range.mp hk))
  have hplain : ∀ (r : List Nat), r ∈ ev → ∀ side : Int, (side = 1 ∨ side = -1) → Act G 9 (fun vs => call (.ref 154) vs) [.str (S r), .int side] (.str (S (plain r side))) := fun r hr side hside =>
    plain_act R.B R.N R.namedF R.namedN hp r side hside (hgood r hr).1
  have hread : ∀ (r : List Nat), r ∈ ev → Act G 9 (fun vs => call (.ref 147) vs) [.str (S r), .int (frontOf t), .int (1 + (t : Int) % 3)] (.str (S (plain r (frontOf t)))) := fun r hr' => by
    have h46 : ∀ c ∈ sided (frontOf t) r, c ≠ 46 := ((hgood r hr').2 (frontOf t)).1
    rw [← readOf_plain r (frontOf t) h46]
    exact read_act R hr r (frontOf t) (1 + (t : Int) % 3) hfront (by omega) (by omega) (hgood r hr').1 ((hgood r hr').2 _)
  generalize hf0 : frontOf t = front at hfront hneg hread
  refine ex_cons (sx_comp (cl := [("front", L + 3), ("amount", L + 2)]) (σc := [("front", .dat (.int front)), ("amount", .dat (.int (t : Nat)))]) (ds := txts ev) (es := txts (ev.map fun r => plain r front)) (itr_list (ev_name rfl)) ⟨fun x => rfl, rfl, rfl, by decide, ?_, ?_, ?_⟩ ?_ (by rw [List.length_map]; omega) (.loc rfl) rfl) ?_
  · intro x c h
    simp only [List.mem_cons, List.not_mem_nil, or_false, Prod.mk.injEq] at h
    rcases h with ⟨rfl, rfl⟩ | ⟨rfl, rfl⟩ <;> rfl
  · intro C p hp; cases hp
  · intro C x V e
    rcases look2 e with ⟨rfl, rfl⟩ | ⟨rfl, rfl⟩
    · exact ⟨_, L + 3, rfl, rfl, .inl rfl, .inl rfl, rfl, rfl⟩
    · exact ⟨_, L + 2, rfl, rfl, .inl rfl, .inl rfl, rfl, rfl⟩
  · intro C
    rw [show txts (ev.map fun r => plain r front) = ev.map (fun r => D.str (S (plain r front))) from List.map_map ..]
    refine each_map _ _ _ fun r hr => ⟨_, asg_name (.loc rfl), upd_keeps rfl, ?_⟩
    exact call_f (fv_global R.B rfl hrg) hkr hdr (.cons (fun _ _ => rfl) (ev_name rfl) (.cons (fun _ _ => rfl) (ev_name rfl) (.cons (fun _ _ => rfl) (ev_binop ev_int (ev_binop (ev_name rfl) ev_int (mod_ii _ 3 (by omega))) (add_ii _ _)) .nil))) (hread r hr)
  have hres : decide (sortL (ev.map fun r => plain r front) = sortL (ev.map fun r => plain r (-front))) = true := by
    apply decide_eq_true
    rcases hfront with rfl | rfl
    · exact hsame
    · exact hsame.symm
  rw [← hres]
  refine ex_ret (sx_ret (ev_cmp (call_b (fv_builtin R.B rfl R.N.sorted0 R.N.sorted1) (.cons (fun _ _ => rfl) (ev_name rfl) .nil) (sorted_ls _ (by rw [List.length_map]; exact hfew))) (call_b (fv_builtin R.B rfl R.N.sorted0 R.N.sorted1) (.cons (fun _ _ => rfl) (?_ : Ev _ _ _ _ (.list (txts (ev.map fun r => plain r (-front))))) .nil) (sorted_ls _ (by rw [List.length_map]; exact hfew))) (eq_ls _ _)))
  refine ev_comp (cl := [("front", L + 3)]) (σc := [("front", .dat (.int front))]) (ds := txts ev) (itr_list (ev_name rfl)) ⟨fun x => rfl, rfl, rfl, by decide, ?_, ?_, ?_⟩ ?_ (by rw [List.length_map]; omega)
  · intro x c h; obtain ⟨rfl, rfl⟩ := Prod.mk.inj (List.mem_singleton.mp h); rfl
  · intro C p hp; cases hp
  · intro C x V e
    obtain ⟨rfl, rfl⟩ := look1 e
    exact ⟨_, L + 3, rfl, rfl, .inl rfl, .inl rfl, rfl, rfl⟩
  · intro C
    rw [show txts (ev.map fun r => plain r (-front)) = ev.map (fun r => D.str (S (plain r (-front)))) from List.map_map ..]
    refine each_map _ _ _ fun r hr => ⟨_, asg_name (.loc rfl), upd_keeps rfl, ?_⟩
    exact call_f (fv_global R.B rfl hpg) hkp hdp (.cons (fun _ _ => rfl) (ev_name rfl) (.cons (fun _ _ => rfl) (ev_unop (ev_name rfl) (neg_i _)) .nil)) (hplain r hr _ hneg)
end
end Mine

namespace Mine
open PySem PySem.Calls PySem.Spec PyProof.Rows
set_option maxRecDepth 100000
set_option linter.unusedVariables false
set_option linter.unusedSimpArgs false

theorem row_0 : colourRow 0 = true := by decide +kernel
theorem row_1 : colourRow 1 = true := by decide +kernel
theorem row_2 : colourRow 2 = true := by decide +kernel
theorem row_3 : colourRow 3 = true := by decide +kernel
theorem row_4 : colourRow 4 = true := by decide +kernel
theorem row_5 : colourRow 5 = true := by decide +kernel
theorem row_6 : colourRow 6 = true := by decide +kernel
theorem row_7 : colourRow 7 = true := by decide +kernel
theorem row_8 : colourRow 8 = true := by decide +kernel
theorem row_9 : colourRow 9 = true := by decide +kernel
theorem row_10 : colourRow 10 = true := by decide +kernel
theorem row_11 : colourRow 11 = true := by decide +kernel
theorem row_12 : colourRow 12 = true := by decide +kernel
theorem row_13 : colourRow 13 = true := by decide +kernel
theorem row_14 : colourRow 14 = true := by decide +kernel
theorem row_15 : colourRow 15 = true := by decide +kernel
theorem row_16 : colourRow 16 = true := by decide +kernel
theorem row_17 : colourRow 17 = true := by decide +kernel
theorem row_18 : colourRow 18 = true := by decide +kernel
theorem row_19 : colourRow 19 = true := by decide +kernel
theorem row_20 : colourRow 20 = true := by decide +kernel
theorem row_21 : colourRow 21 = true := by decide +kernel
theorem row_22 : colourRow 22 = true := by decide +kernel
theorem row_23 : colourRow 23 = true := by decide +kernel
theorem row_24 : colourRow 24 = true := by decide +kernel
theorem row_25 : colourRow 25 = true := by decide +kernel
theorem row_26 : colourRow 26 = true := by decide +kernel
theorem row_27 : colourRow 27 = true := by decide +kernel
theorem row_28 : colourRow 28 = true := by decide +kernel
theorem row_29 : colourRow 29 = true := by decide +kernel
theorem row_30 : colourRow 30 = true := by decide +kernel
theorem row_31 : colourRow 31 = true := by decide +kernel
theorem row_32 : colourRow 32 = true := by decide +kernel
theorem row_33 : colourRow 33 = true := by decide +kernel
theorem row_34 : colourRow 34 = true := by decide +kernel
theorem row_35 : colourRow 35 = true := by decide +kernel
theorem row_36 : colourRow 36 = true := by decide +kernel
theorem row_37 : colourRow 37 = true := by decide +kernel
theorem row_38 : colourRow 38 = true := by decide +kernel
theorem row_39 : colourRow 39 = true := by decide +kernel
theorem row_40 : colourRow 40 = true := by decide +kernel
theorem row_41 : colourRow 41 = true := by decide +kernel
theorem row_42 : colourRow 42 = true := by decide +kernel
theorem row_43 : colourRow 43 = true := by decide +kernel
theorem row_44 : colourRow 44 = true := by decide +kernel
theorem row_45 : colourRow 45 = true := by decide +kernel
theorem row_46 : colourRow 46 = true := by decide +kernel
theorem row_47 : colourRow 47 = true := by decide +kernel
theorem rows_all : ∀ u, u < 48 → colourRow u = true := fun u h => by
  exact match u, h with
    | 0, _ => row_0
    | 1, _ => row_1
    | 2, _ => row_2
    | 3, _ => row_3
    | 4, _ => row_4
    | 5, _ => row_5
    | 6, _ => row_6
    | 7, _ => row_7
    | 8, _ => row_8
    | 9, _ => row_9
    | 10, _ => row_10
    | 11, _ => row_11
    | 12, _ => row_12
    | 13, _ => row_13
    | 14, _ => row_14
    | 15, _ => row_15
    | 16, _ => row_16
    | 17, _ => row_17
    | 18, _ => row_18
    | 19, _ => row_19
    | 20, _ => row_20
    | 21, _ => row_21
    | 22, _ => row_22
    | 23, _ => row_23
    | 24, _ => row_24
    | 25, _ => row_25
    | 26, _ => row_26
    | 27, _ => row_27
    | 28, _ => row_28
    | 29, _ => row_29
    | 30, _ => row_30
    | 31, _ => row_31
    | 32, _ => row_32
    | 33, _ => row_33
    | 34, _ => row_34
    | 35, _ => row_35
    | 36, _ => row_36
    | 37, _ => row_37
    | 38, _ => row_38
    | 39, _ => row_39
    | 40, _ => row_40
    | 41, _ => row_41
    | 42, _ => row_42
    | 43, _ => row_43
    | 44, _ => row_44
    | 45, _ => row_45
    | 46, _ => row_46
    | 47, _ => row_47
    | n + 48, h => absurd h (by omega)

theorem hue_c (T : Nat) (h : T < 192) : finI (Float64.mul (divII (T : Nat) 48) F6) = some ((T / 8 : Nat) : Int) ∧ fracF (divII (T : Nat) 48) ((T / 8 : Nat) : Int) = divII (T % 8 : Nat) 8 ∧ Float64.isInf (Float64.ofInt ((T / 8 : Nat) : Int)) = false ∧ Float64.isInf (divII (T : Nat) 48) = false := by
  have : ∀ T, T < 192 → (finI (Float64.mul (divII (T : Nat) 48) F6) = some ((T / 8 : Nat) : Int) ∧ fracF (divII (T : Nat) 48) ((T / 8 : Nat) : Int) = divII (T % 8 : Nat) 8 ∧ Float64.isInf (Float64.ofInt ((T / 8 : Nat) : Int)) = false ∧ Float64.isInf (divII (T : Nat) 48) = false) := by decide +kernel
  exact this T h
theorem spot_c : ∀ u, u < 48 → finI (Float64.mul (Float64.ofInt 4) (divII (u : Nat) 48)) = some ((u / 12 : Nat) : Int) := by decide +kernel
theorem share_c : ∀ j, j < 4 → Float64.isInf (divII (shareN j) (2 ^ 30)) = false ∧ eqF (divII (shareN j) (2 ^ 30)) F0 = false := by decide +kernel
theorem value_c : ∀ k, k < 4 → Float64.isInf (divII (valueN k) (2 ^ 20)) = false := by decide +kernel
theorem due_c : ∀ j k, j < 4 → k < 4 → Float64.isInf (divII (dueN j k) (2 ^ 51)) = false ∧ Float64.isInf (satN j k) = false ∧ (min (dueN j k) (2 ^ 51 - dueN j k) == 0) = false := by
  have : ∀ j, j < 4 → ∀ k, k < 4 → Float64.isInf (divII (dueN j k) (2 ^ 51)) = false ∧ Float64.isInf (satN j k) = false ∧ (min (dueN j k) (2 ^ 51 - dueN j k) == 0) = false := by decide +kernel
  exact fun j k hj hk => this j hj k hk
theorem lightC_c : Float64.isInf (divII 1 (2 ^ 53)) = false ∧ Float64.isInf (divII 1 1) = false ∧ eqF (divII 1 (2 ^ 53)) F0 = false ∧ ∀ t, t < 6 → Float64.isInf (Float64.ofInt ((t : Nat) : Int)) = false := by decide +kernel
noncomputable def lightRgb (t : Nat) : UInt64 × UInt64 × UInt64 := six (((t : Nat) : Int) % 6) (divII 1 1) (pF (divII 1 (2 ^ 53)) (divII 1 1)) (qF (divII 1 (2 ^ 53)) (divII 1 1) (fracF (divII (t : Nat) 6) (t : Nat))) (tF (divII 1 (2 ^ 53)) (divII 1 1) (fracF (divII (t : Nat) 6) (t : Nat)))
noncomputable def lightChk (t : Nat) : Bool := toldChk (lightRgb t).1 (lightRgb t).2.1 (lightRgb t).2.2 (divII (t : Nat) 6) (liF (lightRgb t).1 (lightRgb t).2.1 (lightRgb t).2.2) F1
theorem light_a : ∀ t, t < 6 → Float64.isInf (divII (t : Nat) 6) = false ∧ finI (Float64.mul (divII (t : Nat) 6) F6) = some ((t : Nat) : Int) := by decide +kernel
theorem light_b : ∀ t, t < 6 → lightChk t = true := by decide +kernel

theorem cols : Cols := by
  refine ⟨fun u j k hu hj hk => ?_, hue_c, spot_c, share_c, value_c, due_c, fun t ht => ?_, lightC_c⟩
  · have h := rows_all u hu
    unfold colourRow at h
    have h1 := List.all_eq_true.mp h j (List.mem_range.mpr hj)
    have h2 := List.all_eq_true.mp h1 k (List.mem_range.mpr hk)
    rw [colourChk_eq] at h2
    exact h2
  · obtain ⟨a, b⟩ := light_a t ht
    refine ⟨a, b, liF (lightRgb t).1 (lightRgb t).2.1 (lightRgb t).2.2, ?_⟩
    have h := light_b t ht
    unfold lightChk at h
    rw [toldChk_eq] at h
    exact h
end Mine

namespace Mine
open PySem PySem.Calls PySem.Spec PyProof.Rows
set_option maxRecDepth 100000
set_option linter.unusedVariables false
set_option linter.unusedSimpArgs false

-- orders and likeness
noncomputable def ltB : List Nat → List Nat → Bool
  | [], [] => false
  | [], _ :: _ => true
  | _ :: _, [] => false
  | x :: a, y :: b => bif Nat.ble y x then (bif Nat.beq x y then ltB a b else false) else true
theorem ltB_eq : ∀ a b, ltB a b = decide (a < b)
  | [], [] => rfl
  | [], _ :: _ => by unfold ltB; simp
  | _ :: _, [] => by unfold ltB; simp
  | x :: a, y :: b => by
    unfold ltB
    rw [ltB_eq a b, Bool.eq_iff_iff, decide_eq_true_iff, List.cons_lt_cons_iff]
    cases h1 : Nat.ble y x with
    | false =>
      have : ¬ y ≤ x := fun q => by rw [Nat.ble_eq_true_of_le q] at h1; cases h1
      simp; omega
    | true =>
      have h1 := Nat.le_of_ble_eq_true h1
      cases h2 : Nat.beq x y with
      | false =>
        have : x ≠ y := Nat.ne_of_beq_eq_false h2
        simp; omega
      | true =>
        have := Nat.eq_of_beq_eq_true h2
        subst this
        simp
noncomputable def insB (x : List Nat) : List (List Nat) → List (List Nat)
  | [] => [x]
  | y :: r => bif ltB y x then y :: insB x r else x :: y :: r
theorem insB_eq (x : List Nat) : ∀ l, insB x l = insL x l
  | [] => rfl
  | y :: r => by
    unfold insB insL
    rw [ltB_eq, insB_eq x r]
    by_cases h : y < x <;> simp [h]
noncomputable def sortB : List (List Nat) → List (List Nat)
  | [] => []
  | x :: r => insB x (sortB r)
theorem sortB_eq : ∀ l, sortB l = sortL l
  | [] => rfl
  | x :: r => by unfold sortB sortL; rw [insB_eq, sortB_eq r]
noncomputable def minB (m : List Nat) : List (List Nat) → List Nat
  | [] => m
  | x :: r => minB (bif ltB x m then x else m) r
theorem minB_eq : ∀ (l : List (List Nat)) (m : List Nat), minB m l = minOf m l
  | [], _ => rfl
  | x :: r, m => by
    unfold minB minOf
    rw [ltB_eq, minB_eq r]
    by_cases h : x < m <;> simp [h]
noncomputable def rotB (pre : List Nat) : List Nat → List (List Nat)
  | [] => []
  | x :: suf => (x :: suf ++ pre) :: rotB (pre ++ [x]) suf
theorem rotB_eq : ∀ (suf pre : List Nat), rotB pre suf = (List.range' pre.length suf.length).map fun k => (pre ++ suf).drop k ++ (pre ++ suf).take k
  | [], pre => rfl
  | x :: suf, pre => by
    unfold rotB
    rw [List.length_cons, List.range'_succ, List.map_cons, rotB_eq suf (pre ++ [x])]
    congr 1
    · simp
    · simp
noncomputable def ringB (r : List Nat) : List Nat := match rotB [] r with
  | [] => []
  | x :: l => minB x l
theorem ringB_eq (r : List Nat) : ringB r = minL (rots r) := by
  have h := rotB_eq r []
  have e : rotB [] r = rots r := by
    rw [h]; unfold rots; rw [List.range_eq_range']; simp
  unfold ringB
  rw [e]
  cases rots r with
  | nil => rfl
  | cons x l => exact minB_eq l x

-- the plain reading
noncomputable def cutB {β : Type} (c : Nat) (no : β) (yes : List Nat → List Nat → β) : List Nat → List Nat → β
  | _, [] => no
  | pre, y :: r => bif Nat.beq y c then yes pre (y :: r) else cutB c no yes (pre ++ [y]) r
theorem cutB_eq {β : Type} (c : Nat) (no : β) (yes : List Nat → List Nat → β) : ∀ (l pre : List Nat), cutB c no yes pre l = if c ∈ l then yes (pre ++ l.take (l.idxOf c)) (l.drop (l.idxOf c)) else no
  | [], _ => by simp [cutB]
  | y :: r, pre => by
    unfold cutB
    rw [cutB_eq c no yes r]
    cases h : Nat.beq y c with
    | true =>
      have := Nat.eq_of_beq_eq_true h
      subst this
      simp
    | false =>
      have h := Nat.ne_of_beq_eq_false h
      have e1 : (c ∈ y :: r) = (c ∈ r) := by
        rw [List.mem_cons, eq_iff_iff]
        exact ⟨fun q => q.elim (fun q => absurd q.symm h) id, .inr⟩
      have e2 : (y :: r).idxOf c = r.idxOf c + 1 := by
        rw [List.idxOf_cons]
        have : (y == c) = false := beq_eq_false_iff_ne.mpr h
        rw [this]; rfl
      simp only [cond_false, e1, e2, List.take_succ_cons, List.drop_succ_cons, List.append_assoc, List.singleton_append]
noncomputable def runB (fw : Bool) : List Nat → List Nat → List (List Nat) → List Nat
  | [], way, rings => (bif fw then way else way.reverse) ++ [32] ++ joinL [32] (sortB rings)
  | c :: t, way, rings => cutB c (fl (way ++ [c]) fun w => runB fw t w rings) (fun p q => fl (p ++ [c]) fun w => fl (ringB (bif fw then q else q.reverse)) fun r => runB fw t w (r :: rings)) [] way
noncomputable def plainB (w : List Nat) (fw : Bool) : List Nat := runB fw (bif fw then w else w.reverse) [] []

theorem sortL_same {a b : List (List Nat)} (h : a.Perm b) : sortL a = sortL b := sortL_unique ((sortL_perm a).trans h) (sortL_sorted a)

noncomputable def sideOf (fw : Bool) : Int := if fw then 1 else -1
theorem sided_of (fw : Bool) (l : List Nat) : (bif fw then l else l.reverse) = sided (sideOf fw) l := by
  cases fw with
  | true => rfl
  | false => rfl
theorem runB_eq (fw : Bool) : ∀ (t way : List Nat) (loops rings : List (List Nat)), rings.Perm (loops.map fun r => minL (rots r)) →
    runB fw t way rings = named (sided (sideOf fw) (t.foldl (plainStep (sideOf fw)) (way, loops)).1) (t.foldl (plainStep (sideOf fw)) (way, loops)).2
  | [], way, loops, rings, h => by
    unfold runB named
    rw [sortB_eq, sortL_same h, sided_of]
    rfl
  | c :: t, way, loops, rings, h => by
    unfold runB
    rw [cutB_eq, List.foldl_cons]
    unfold plainStep
    by_cases hc : c ∈ way
    · rw [if_pos hc, if_pos hc]
      simp only [fl_eq, List.nil_append]
      refine runB_eq fw t _ _ _ ?_
      rw [ringB_eq, sided_of, List.map_append]
      exact (List.perm_append_comm (l₁ := [_]) (l₂ := rings)).trans (h.append_right _)
    · rw [if_neg hc, if_neg hc]
      simp only [fl_eq]
      exact runB_eq fw t _ _ _ h
theorem plainB_eq (w : List Nat) (fw : Bool) : plainB w fw = plain w (sideOf fw) := by
  unfold plainB plain plainRun
  rw [runB_eq fw _ [] [] [] (.refl _), sided_of]

-- the walks
noncomputable def dec (c : Nat) : List Nat := [97 + c / 4, 97 + c % 4]
theorem dec_inj {x y : Nat} (h : dec x = dec y) : x = y := by
  unfold dec at h
  simp at h
  omega
noncomputable def memB (x : Nat) : List Nat → Bool
  | [] => false
  | y :: r => bif Nat.beq x y then true else memB x r
theorem memB_eq (x : Nat) : ∀ l, memB x l = decide (x ∈ l)
  | [] => by simp [memB]
  | y :: r => by
    unfold memB
    rw [memB_eq x r]
    cases h : Nat.beq x y with
    | true => have := Nat.eq_of_beq_eq_true h; subst this; simp
    | false => have := Nat.ne_of_beq_eq_false h; simp [this]
noncomputable def pickB (f : Nat → List Nat → List (List Nat)) (c : Nat) : List Nat → List Nat → List (List Nat)
  | _, [] => []
  | pre, x :: suf => (bif Nat.beq (x / 4) c then (bif memB x pre then [] else fl (pre ++ suf) fun K => fn (x % 4) fun q => (f q K).map ((97 + c) :: ·)) else []) ++ pickB f c (pre ++ [x]) suf
noncomputable def walksB : Nat → Nat → List Nat → List (List Nat)
  | 0, c, _ => [[97 + c]]
  | n + 1, c, K => pickB (walksB n) c [] K

theorem pickB_cons (f : Nat → List Nat → List (List Nat)) (c x : Nat) (pre suf : List Nat) : pickB f c pre (x :: suf) = (bif Nat.beq (x / 4) c then (bif memB x pre then [] else fl (pre ++ suf) fun K => fn (x % 4) fun q => (f q K).map ((97 + c) :: ·)) else []) ++ pickB f c (pre ++ [x]) suf := rfl
theorem pickB_eq (n c : Nat) (ih : ∀ q K, walksL n (97 + q) (K.map dec) = walksB n q K) : ∀ (suf pre : List Nat) (acc : List (List Nat)),
    (List.range' pre.length suf.length).foldl (wstep n (97 + c) ((pre ++ suf).map dec)) acc = acc ++ pickB (walksB n) c pre suf
  | [], pre, acc => by simp [pickB]
  | x :: suf, pre, acc => by
    rw [List.length_cons, List.range'_succ, List.foldl_cons]
    have e1 : pre ++ x :: suf = (pre ++ [x]) ++ suf := by simp
    have e2 : pre.length + 1 = (pre ++ [x]).length := by simp
    rw [e1, e2, pickB_eq n c ih suf (pre ++ [x]), pickB_cons, ← List.append_assoc]
    congr 1
    unfold wstep
    have g : (((pre ++ [x]) ++ suf).map dec).getD pre.length [] = dec x := by
      rw [List.getD_eq_getElem?_getD, List.getElem?_map, List.append_assoc, List.getElem?_append_right (Nat.le_refl _), Nat.sub_self]
      rfl
    have t1 : (((pre ++ [x]) ++ suf).map dec).take pre.length = pre.map dec := by
      rw [← List.map_take, List.append_assoc, List.take_left' rfl]
    have t2 : (((pre ++ [x]) ++ suf).map dec).drop (pre.length + 1) = suf.map dec := by
      rw [← List.map_drop, List.drop_left' (by simp)]
    rw [g, t1, t2, ← List.map_append]
    have m : dec x ∈ pre.map dec ↔ x ∈ pre := by
      rw [List.mem_map]
      exact ⟨fun ⟨y, hy, e⟩ => dec_inj e ▸ hy, fun q => ⟨x, q, rfl⟩⟩
    have d0 : (dec x).getD 0 0 = 97 + x / 4 := rfl
    have d1 : (dec x).getD 1 0 = 97 + x % 4 := rfl
    rw [d1, ih]
    simp only [fl_eq, fn_eq, memB_eq]
    cases h : Nat.beq (x / 4) c with
    | true =>
      have h := Nat.eq_of_beq_eq_true h
      by_cases hm : x ∈ pre
      · rw [if_neg (fun q => q.2 (m.mpr hm))]; simp [hm]
      · rw [if_pos ⟨by rw [d0]; omega, fun q => hm (m.mp q)⟩]; simp [hm]
    | false =>
      have h := Nat.ne_of_beq_eq_false h
      rw [if_neg (fun q => h (by have := q.1; rw [d0] at this; omega))]; simp
theorem walksB_eq : ∀ (n c : Nat) (K : List Nat), walksL n (97 + c) (K.map dec) = walksB n c K
  | 0, c, K => rfl
  | n + 1, c, K => by
    rw [walksL_succ, List.length_map, List.range_eq_range']
    have := pickB_eq n c (walksB_eq n) K [] []
    rw [List.nil_append, List.nil_append] at this
    exact this

-- the check at a key
noncomputable def eqB : List Nat → List Nat → Bool
  | [], [] => true
  | x :: a, y :: b => bif Nat.beq x y then eqB a b else false
  | _, _ => false
theorem eqB_sound : ∀ {a b}, eqB a b = true → a = b
  | [], [], _ => rfl
  | [], _ :: _, h => by simp [eqB] at h
  | _ :: _, [], h => by simp [eqB] at h
  | x :: a, y :: b, h => by
    unfold eqB at h
    cases h1 : Nat.beq x y with
    | false => rw [h1] at h; cases h
    | true =>
      rw [h1] at h
      have := Nat.eq_of_beq_eq_true h1
      rw [this, eqB_sound h]
noncomputable def eqLB : List (List Nat) → List (List Nat) → Bool
  | [], [] => true
  | x :: a, y :: b => bif eqB x y then eqLB a b else false
  | _, _ => false
theorem eqLB_sound : ∀ {a b}, eqLB a b = true → a = b
  | [], [], _ => rfl
  | [], _ :: _, h => by simp [eqLB] at h
  | _ :: _, [], h => by simp [eqLB] at h
  | x :: a, y :: b, h => by
    unfold eqLB at h
    cases h1 : eqB x y with
    | false => rw [h1] at h; cases h
    | true =>
      rw [h1] at h
      rw [eqB_sound h1, eqLB_sound h]
/-- neighbours unlike, letters of the four, no more than n -/
noncomputable def goodB : Nat → Nat → List Nat → Bool
  | _, _, [] => true
  | 0, _, _ :: _ => false
  | n + 1, p, x :: r => bif Nat.beq x p then false else bif Nat.ble 97 x then (bif Nat.ble x 100 then goodB n x r else false) else false
noncomputable def goodR : List Nat → Bool
  | [] => false
  | x :: r => goodB 60 0 (x :: r)
noncomputable def allB (f : List Nat → Bool) : List (List Nat) → Bool
  | [] => true
  | x :: r => bif f x then allB f r else false
noncomputable def okKey (K : List Nat) : Bool :=
  fll (walksB 7 0 K) fun ev => bif Nat.ble ev.length 63 then (bif allB goodR ev then (fll (ev.map fun r => plainB r true) fun a => fll (ev.map fun r => plainB r false) fun b => fll (sortB a) fun a => fll (sortB b) fun b => eqLB a b) else false) else false
end Mine

namespace Mine
open PySem PySem.Calls PySem.Spec PyProof.Rows
set_option maxRecDepth 100000
set_option linter.unusedVariables false
set_option linter.unusedSimpArgs false

-- the bags of steps, as sorted lists of numbers
noncomputable def insN (x : Nat) : List Nat → List Nat
  | [] => [x]
  | y :: r => bif Nat.ble x y then x :: y :: r else y :: insN x r
noncomputable def sortN : List Nat → List Nat
  | [] => []
  | x :: r => insN x (sortN r)
/-- 0 less, 1 like, 2 more -/
noncomputable def cmpN : List Nat → List Nat → Nat
  | [], [] => 1
  | [], _ :: _ => 0
  | _ :: _, [] => 2
  | x :: a, y :: b => bif Nat.beq x y then cmpN a b else (bif Nat.ble x y then 0 else 2)
/-- two lists, one behind the other's items; what is like stands once -/
noncomputable def mrg : Nat → List (List Nat) → List (List Nat) → List (List Nat)
  | 0, a, b => a ++ b
  | _ + 1, [], b => b
  | _ + 1, a, [] => a
  | n + 1, x :: a, y :: b => match cmpN x y with
    | 0 => x :: mrg n a (y :: b)
    | 1 => bif eqB x y then mrg n a (y :: b) else x :: mrg n a (y :: b)
    | _ => y :: mrg n (x :: a) b
theorem mem_mrg {z : List Nat} : ∀ (n : Nat) (a b : List (List Nat)), z ∈ a ∨ z ∈ b → z ∈ mrg n a b
  | 0, a, b, h => List.mem_append.mpr h
  | _ + 1, [], b, h => by simpa [mrg] using h
  | _ + 1, x :: a, [], h => by simpa [mrg] using h
  | n + 1, x :: a, y :: b, h => by
    have l : z ∈ x :: mrg n a (y :: b) := by
      rcases h with h | h
      · rcases List.mem_cons.mp h with rfl | h
        · exact .head _
        · exact .tail _ (mem_mrg n a (y :: b) (.inl h))
      · exact .tail _ (mem_mrg n a (y :: b) (.inr h))
    unfold mrg
    split
    · exact l
    · cases e : eqB x y with
      | false => exact l
      | true =>
        have e := eqB_sound e
        subst e
        rcases h with h | h
        · rcases List.mem_cons.mp h with rfl | h
          · exact mem_mrg n a (z :: b) (.inr (.head _))
          · exact mem_mrg n a (x :: b) (.inl h)
        · exact mem_mrg n a (x :: b) (.inr h)
    · rcases h with h | h
      · exact .tail _ (mem_mrg n (x :: a) b (.inl h))
      · rcases List.mem_cons.mp h with rfl | h
        · exact .head _
        · exact .tail _ (mem_mrg n (x :: a) b (.inr h))
/-- the bags of the walks of n steps from p on -/
noncomputable def keysN : Nat → Nat → List (List Nat)
  | 0, _ => [[]]
  | n + 1, p => mrg 2000 ((keysN n ((p + 1) % 4)).map (insN (4 * p + (p + 1) % 4))) (mrg 2000 ((keysN n ((p + 2) % 4)).map (insN (4 * p + (p + 2) % 4))) ((keysN n ((p + 3) % 4)).map (insN (4 * p + (p + 3) % 4))))
noncomputable def keysK {β : Type} : Nat → (List (List Nat) → List (List Nat) → List (List Nat) → List (List Nat) → β) → β
  | 0, k => k [[]] [[]] [[]] [[]]
  | n + 1, k => keysK n fun a b c d =>
      fll (mrg 2000 (b.map (insN 1)) (mrg 2000 (c.map (insN 2)) (d.map (insN 3)))) fun a' =>
      fll (mrg 2000 (c.map (insN 6)) (mrg 2000 (d.map (insN 7)) (a.map (insN 4)))) fun b' =>
      fll (mrg 2000 (d.map (insN 11)) (mrg 2000 (a.map (insN 8)) (b.map (insN 9)))) fun c' =>
      fll (mrg 2000 (a.map (insN 12)) (mrg 2000 (b.map (insN 13)) (c.map (insN 14)))) fun d' => k a' b' c' d'
theorem keysK_eq {β : Type} : ∀ (n : Nat) (k : List (List Nat) → List (List Nat) → List (List Nat) → List (List Nat) → β), keysK n k = k (keysN n 0) (keysN n 1) (keysN n 2) (keysN n 3)
  | 0, _ => rfl
  | n + 1, k => by
    show keysK n _ = _
    rw [keysK_eq n]
    simp only [fll_eq]
    rfl
end Mine

namespace Mine
open PySem PySem.Calls PySem.Spec PyProof.Rows
set_option maxRecDepth 100000
set_option linter.unusedVariables false
set_option linter.unusedSimpArgs false

noncomputable def keyPart0 : List (List Nat) := [[1, 1, 1, 1, 4, 4, 4], [1, 1, 1, 2, 4, 4, 4], [1, 1, 1, 2, 4, 4, 8], [1, 1, 1, 3, 4, 4, 4], [1, 1, 1, 3, 4, 4, 12], [1, 1, 1, 4, 4, 6, 8], [1, 1, 1, 4, 4, 6, 9], [1, 1, 1, 4, 4, 6, 11], [1, 1, 1, 4, 4, 7, 12], [1, 1, 1, 4, 4, 7, 13], [1, 1, 1, 4, 4, 7, 14], [1, 1, 1, 4, 6, 6, 8], [1, 1, 1, 4, 6, 7, 8], [1, 1, 1, 4, 6, 7, 12], [1, 1, 1, 4, 6, 11, 12], [1, 1, 1, 4, 7, 7, 12], [1, 1, 1, 4, 7, 8, 14], [1, 1, 1, 6, 6, 8, 8], [1, 1, 1, 6, 7, 8, 12], [1, 1, 1, 7, 7, 12, 12], [1, 1, 2, 2, 4, 4, 8], [1, 1, 2, 2, 4, 8, 8], [1, 1, 2, 3, 4, 4, 8], [1, 1, 2, 3, 4, 4, 12], [1, 1, 2, 3, 4, 8, 12], [1, 1, 2, 4, 4, 4, 9], [1, 1, 2, 4, 4, 6, 9], [1, 1, 2, 4, 4, 7, 9], [1, 1, 2, 4, 4, 7, 13], [1, 1, 2, 4, 4, 11, 12], [1, 1, 2, 4, 4, 11, 13], [1, 1, 2, 4, 4, 11, 14], [1, 1, 2, 4, 6, 8, 8], [1, 1, 2, 4, 6, 8, 9], [1, 1, 2, 4, 6, 8, 11], [1, 1, 2, 4, 6, 11, 12], [1, 1, 2, 4, 7, 8, 12], [1, 1, 2, 4, 7, 8, 13], [1, 1, 2, 4, 7, 8, 14], [1, 1, 2, 4, 7, 9, 12], [1, 1, 2, 4, 7, 11, 12], [1, 1, 2, 4, 8, 11, 14], [1, 1, 2, 6, 6, 8, 8], [1, 1, 2, 6, 7, 8, 8], [1, 1, 2, 6, 7, 8, 12], [1, 1, 2, 6, 8, 11, 12], [1, 1, 2, 7, 7, 8, 12], [1, 1, 2, 7, 7, 12, 12], [1, 1, 2, 7, 8, 8, 14], [1, 1, 2, 7, 11, 12, 12], [1, 1, 3, 3, 4, 4, 12], [1, 1, 3, 3, 4, 12, 12], [1, 1, 3, 4, 4, 4, 13], [1, 1, 3, 4, 4, 6, 9], [1, 1, 3, 4, 4, 6, 13], [1, 1, 3, 4, 4, 7, 13], [1, 1, 3, 4, 4, 8, 14], [1, 1, 3, 4, 4, 9, 14], [1, 1, 3, 4, 4, 11, 14]]
noncomputable def keyPart1 : List (List Nat) := [[1, 1, 3, 4, 6, 8, 12], [1, 1, 3, 4, 6, 8, 13], [1, 1, 3, 4, 6, 8, 14], [1, 1, 3, 4, 6, 9, 12], [1, 1, 3, 4, 6, 11, 12], [1, 1, 3, 4, 7, 8, 14], [1, 1, 3, 4, 7, 12, 12], [1, 1, 3, 4, 7, 12, 13], [1, 1, 3, 4, 7, 12, 14], [1, 1, 3, 4, 11, 12, 14], [1, 1, 3, 6, 6, 8, 8], [1, 1, 3, 6, 6, 8, 12], [1, 1, 3, 6, 7, 8, 12], [1, 1, 3, 6, 7, 12, 12], [1, 1, 3, 6, 8, 8, 14], [1, 1, 3, 6, 11, 12, 12], [1, 1, 3, 7, 7, 12, 12], [1, 1, 3, 7, 8, 12, 14], [1, 1, 4, 4, 6, 11, 13], [1, 1, 4, 4, 7, 9, 14], [1, 1, 4, 6, 6, 8, 9], [1, 1, 4, 6, 6, 9, 9], [1, 1, 4, 6, 6, 9, 11], [1, 1, 4, 6, 6, 11, 13], [1, 1, 4, 6, 7, 8, 13], [1, 1, 4, 6, 7, 9, 12], [1, 1, 4, 6, 7, 9, 13], [1, 1, 4, 6, 7, 9, 14], [1, 1, 4, 6, 7, 11, 13], [1, 1, 4, 6, 8, 11, 14], [1, 1, 4, 6, 9, 11, 14], [1, 1, 4, 6, 11, 11, 14], [1, 1, 4, 7, 7, 9, 14], [1, 1, 4, 7, 7, 12, 13], [1, 1, 4, 7, 7, 13, 13], [1, 1, 4, 7, 7, 13, 14], [1, 1, 4, 7, 11, 12, 14], [1, 1, 4, 7, 11, 13, 14], [1, 1, 4, 7, 11, 14, 14], [1, 1, 6, 6, 6, 8, 9], [1, 1, 6, 6, 7, 8, 9], [1, 1, 6, 6, 7, 8, 13], [1, 1, 6, 6, 7, 9, 12], [1, 1, 6, 6, 8, 11, 12], [1, 1, 6, 6, 8, 11, 13], [1, 1, 6, 6, 8, 11, 14], [1, 1, 6, 6, 9, 11, 12], [1, 1, 6, 6, 11, 11, 12], [1, 1, 6, 7, 7, 8, 13], [1, 1, 6, 7, 7, 9, 12], [1, 1, 6, 7, 7, 12, 13], [1, 1, 6, 7, 8, 8, 14], [1, 1, 6, 7, 8, 9, 14], [1, 1, 6, 7, 8, 11, 14], [1, 1, 6, 7, 11, 12, 12], [1, 1, 6, 7, 11, 12, 13], [1, 1, 6, 7, 11, 12, 14], [1, 1, 6, 11, 11, 12, 14], [1, 1, 7, 7, 7, 12, 13]]
noncomputable def keyPart2 : List (List Nat) := [[1, 1, 7, 7, 8, 12, 14], [1, 1, 7, 7, 8, 13, 14], [1, 1, 7, 7, 8, 14, 14], [1, 1, 7, 7, 9, 12, 14], [1, 1, 7, 7, 11, 12, 14], [1, 1, 7, 8, 11, 14, 14], [1, 2, 2, 2, 4, 8, 8], [1, 2, 2, 2, 8, 8, 8], [1, 2, 2, 3, 4, 8, 8], [1, 2, 2, 3, 4, 8, 12], [1, 2, 2, 3, 8, 8, 12], [1, 2, 2, 4, 4, 8, 9], [1, 2, 2, 4, 4, 9, 9], [1, 2, 2, 4, 4, 9, 11], [1, 2, 2, 4, 4, 11, 13], [1, 2, 2, 4, 6, 8, 9], [1, 2, 2, 4, 7, 8, 9], [1, 2, 2, 4, 7, 8, 13], [1, 2, 2, 4, 7, 9, 12], [1, 2, 2, 4, 8, 11, 12], [1, 2, 2, 4, 8, 11, 13], [1, 2, 2, 4, 8, 11, 14], [1, 2, 2, 4, 9, 11, 12], [1, 2, 2, 4, 11, 11, 12], [1, 2, 2, 6, 8, 8, 8], [1, 2, 2, 6, 8, 8, 9], [1, 2, 2, 6, 8, 8, 11], [1, 2, 2, 6, 8, 11, 12], [1, 2, 2, 7, 8, 8, 12], [1, 2, 2, 7, 8, 8, 13], [1, 2, 2, 7, 8, 8, 14], [1, 2, 2, 7, 8, 9, 12], [1, 2, 2, 7, 8, 11, 12], [1, 2, 2, 7, 11, 12, 12], [1, 2, 2, 8, 8, 11, 14], [1, 2, 2, 11, 11, 12, 12], [1, 2, 3, 3, 4, 8, 12], [1, 2, 3, 3, 4, 12, 12], [1, 2, 3, 3, 8, 12, 12], [1, 2, 3, 4, 4, 8, 13], [1, 2, 3, 4, 4, 9, 12], [1, 2, 3, 4, 4, 9, 13], [1, 2, 3, 4, 4, 9, 14], [1, 2, 3, 4, 4, 11, 13], [1, 2, 3, 4, 6, 8, 9], [1, 2, 3, 4, 6, 8, 13], [1, 2, 3, 4, 6, 9, 12], [1, 2, 3, 4, 7, 8, 13], [1, 2, 3, 4, 7, 9, 12], [1, 2, 3, 4, 7, 12, 13], [1, 2, 3, 4, 8, 8, 14], [1, 2, 3, 4, 8, 9, 14], [1, 2, 3, 4, 8, 11, 14], [1, 2, 3, 4, 11, 12, 12], [1, 2, 3, 4, 11, 12, 13], [1, 2, 3, 4, 11, 12, 14], [1, 2, 3, 6, 8, 8, 12], [1, 2, 3, 6, 8, 8, 13], [1, 2, 3, 6, 8, 8, 14]]
noncomputable def keyPart3 : List (List Nat) := [[1, 2, 3, 6, 8, 9, 12], [1, 2, 3, 6, 8, 11, 12], [1, 2, 3, 6, 11, 12, 12], [1, 2, 3, 7, 8, 8, 14], [1, 2, 3, 7, 8, 12, 12], [1, 2, 3, 7, 8, 12, 13], [1, 2, 3, 7, 8, 12, 14], [1, 2, 3, 7, 9, 12, 12], [1, 2, 3, 7, 11, 12, 12], [1, 2, 3, 8, 11, 12, 14], [1, 2, 4, 4, 6, 9, 9], [1, 2, 4, 4, 7, 9, 13], [1, 2, 4, 4, 9, 11, 14], [1, 2, 4, 6, 6, 9, 9], [1, 2, 4, 6, 7, 9, 9], [1, 2, 4, 6, 7, 9, 13], [1, 2, 4, 6, 8, 11, 13], [1, 2, 4, 6, 9, 11, 12], [1, 2, 4, 6, 9, 11, 13], [1, 2, 4, 6, 9, 11, 14], [1, 2, 4, 6, 11, 11, 13], [1, 2, 4, 7, 7, 9, 13], [1, 2, 4, 7, 7, 13, 13], [1, 2, 4, 7, 8, 9, 14], [1, 2, 4, 7, 9, 9, 14], [1, 2, 4, 7, 9, 11, 14], [1, 2, 4, 7, 11, 12, 13], [1, 2, 4, 7, 11, 13, 13], [1, 2, 4, 7, 11, 13, 14], [1, 2, 4, 11, 11, 12, 14], [1, 2, 4, 11, 11, 13, 14], [1, 2, 4, 11, 11, 14, 14], [1, 2, 6, 6, 8, 8, 9], [1, 2, 6, 6, 8, 9, 9], [1, 2, 6, 6, 8, 9, 11], [1, 2, 6, 6, 8, 11, 13], [1, 2, 6, 6, 9, 11, 12], [1, 2, 6, 7, 8, 8, 13], [1, 2, 6, 7, 8, 9, 12], [1, 2, 6, 7, 8, 9, 13], [1, 2, 6, 7, 8, 9, 14], [1, 2, 6, 7, 8, 11, 13], [1, 2, 6, 7, 9, 9, 12], [1, 2, 6, 7, 9, 11, 12], [1, 2, 6, 7, 11, 12, 13], [1, 2, 6, 8, 8, 11, 14], [1, 2, 6, 8, 9, 11, 14], [1, 2, 6, 8, 11, 11, 14], [1, 2, 6, 11, 11, 12, 12], [1, 2, 6, 11, 11, 12, 13], [1, 2, 6, 11, 11, 12, 14], [1, 2, 7, 7, 8, 9, 14], [1, 2, 7, 7, 8, 12, 13], [1, 2, 7, 7, 8, 13, 13], [1, 2, 7, 7, 8, 13, 14], [1, 2, 7, 7, 9, 12, 12], [1, 2, 7, 7, 9, 12, 13], [1, 2, 7, 7, 9, 12, 14], [1, 2, 7, 7, 11, 12, 13]]
noncomputable def keyPart4 : List (List Nat) := [[1, 2, 7, 8, 11, 12, 14], [1, 2, 7, 8, 11, 13, 14], [1, 2, 7, 8, 11, 14, 14], [1, 2, 7, 9, 11, 12, 14], [1, 2, 7, 11, 11, 12, 14], [1, 2, 8, 11, 11, 14, 14], [1, 3, 3, 3, 4, 12, 12], [1, 3, 3, 3, 12, 12, 12], [1, 3, 3, 4, 4, 9, 14], [1, 3, 3, 4, 4, 12, 13], [1, 3, 3, 4, 4, 13, 13], [1, 3, 3, 4, 4, 13, 14], [1, 3, 3, 4, 6, 8, 13], [1, 3, 3, 4, 6, 9, 12], [1, 3, 3, 4, 6, 12, 13], [1, 3, 3, 4, 7, 12, 13], [1, 3, 3, 4, 8, 12, 14], [1, 3, 3, 4, 8, 13, 14], [1, 3, 3, 4, 8, 14, 14], [1, 3, 3, 4, 9, 12, 14], [1, 3, 3, 4, 11, 12, 14], [1, 3, 3, 6, 8, 8, 14], [1, 3, 3, 6, 8, 12, 12], [1, 3, 3, 6, 8, 12, 13], [1, 3, 3, 6, 8, 12, 14], [1, 3, 3, 6, 9, 12, 12], [1, 3, 3, 6, 11, 12, 12], [1, 3, 3, 7, 8, 12, 14], [1, 3, 3, 7, 12, 12, 12], [1, 3, 3, 7, 12, 12, 13], [1, 3, 3, 7, 12, 12, 14], [1, 3, 3, 8, 8, 14, 14], [1, 3, 3, 11, 12, 12, 14], [1, 3, 4, 4, 6, 9, 13], [1, 3, 4, 4, 7, 13, 13], [1, 3, 4, 4, 11, 13, 14], [1, 3, 4, 6, 6, 9, 9], [1, 3, 4, 6, 6, 9, 13], [1, 3, 4, 6, 7, 9, 13], [1, 3, 4, 6, 7, 13, 13], [1, 3, 4, 6, 8, 9, 14], [1, 3, 4, 6, 9, 9, 14], [1, 3, 4, 6, 9, 11, 14], [1, 3, 4, 6, 11, 12, 13], [1, 3, 4, 6, 11, 13, 13], [1, 3, 4, 6, 11, 13, 14], [1, 3, 4, 7, 7, 13, 13], [1, 3, 4, 7, 8, 13, 14], [1, 3, 4, 7, 9, 12, 14], [1, 3, 4, 7, 9, 13, 14], [1, 3, 4, 7, 9, 14, 14], [1, 3, 4, 7, 11, 13, 14], [1, 3, 4, 8, 11, 14, 14], [1, 3, 4, 9, 11, 14, 14], [1, 3, 4, 11, 11, 14, 14], [1, 3, 6, 6, 8, 8, 13], [1, 3, 6, 6, 8, 9, 12], [1, 3, 6, 6, 8, 9, 13], [1, 3, 6, 6, 8, 9, 14]]
noncomputable def keyPart5 : List (List Nat) := [[1, 3, 6, 6, 8, 11, 13], [1, 3, 6, 6, 9, 9, 12], [1, 3, 6, 6, 9, 11, 12], [1, 3, 6, 6, 11, 12, 13], [1, 3, 6, 7, 8, 9, 14], [1, 3, 6, 7, 8, 12, 13], [1, 3, 6, 7, 8, 13, 13], [1, 3, 6, 7, 8, 13, 14], [1, 3, 6, 7, 9, 12, 12], [1, 3, 6, 7, 9, 12, 13], [1, 3, 6, 7, 9, 12, 14], [1, 3, 6, 7, 11, 12, 13], [1, 3, 6, 8, 11, 12, 14], [1, 3, 6, 8, 11, 13, 14], [1, 3, 6, 8, 11, 14, 14], [1, 3, 6, 9, 11, 12, 14], [1, 3, 6, 11, 11, 12, 14], [1, 3, 7, 7, 8, 13, 14], [1, 3, 7, 7, 9, 12, 14], [1, 3, 7, 7, 12, 12, 13], [1, 3, 7, 7, 12, 13, 13], [1, 3, 7, 7, 12, 13, 14], [1, 3, 7, 8, 8, 14, 14], [1, 3, 7, 8, 9, 14, 14], [1, 3, 7, 8, 11, 14, 14], [1, 3, 7, 11, 12, 12, 14], [1, 3, 7, 11, 12, 13, 14], [1, 3, 7, 11, 12, 14, 14], [1, 3, 11, 11, 12, 14, 14], [1, 4, 6, 6, 9, 11, 13], [1, 4, 6, 7, 9, 9, 14], [1, 4, 6, 7, 11, 13, 13], [1, 4, 6, 11, 11, 13, 14], [1, 4, 7, 7, 9, 13, 14], [1, 4, 7, 9, 11, 14, 14], [1, 6, 6, 6, 8, 9, 9], [1, 6, 6, 6, 9, 9, 9], [1, 6, 6, 6, 9, 9, 11], [1, 6, 6, 6, 9, 11, 13], [1, 6, 6, 7, 8, 9, 13], [1, 6, 6, 7, 9, 9, 12], [1, 6, 6, 7, 9, 9, 13], [1, 6, 6, 7, 9, 9, 14], [1, 6, 6, 7, 9, 11, 13], [1, 6, 6, 7, 11, 13, 13], [1, 6, 6, 8, 9, 11, 14], [1, 6, 6, 9, 9, 11, 14], [1, 6, 6, 9, 11, 11, 14], [1, 6, 6, 11, 11, 12, 13], [1, 6, 6, 11, 11, 13, 13], [1, 6, 6, 11, 11, 13, 14], [1, 6, 7, 7, 8, 13, 13], [1, 6, 7, 7, 9, 9, 14], [1, 6, 7, 7, 9, 12, 13], [1, 6, 7, 7, 9, 13, 13], [1, 6, 7, 7, 9, 13, 14], [1, 6, 7, 7, 11, 13, 13], [1, 6, 7, 8, 11, 13, 14], [1, 6, 7, 9, 11, 12, 14]]
noncomputable def keyPart6 : List (List Nat) := [[1, 6, 7, 9, 11, 13, 14], [1, 6, 7, 9, 11, 14, 14], [1, 6, 7, 11, 11, 13, 14], [1, 6, 8, 11, 11, 14, 14], [1, 6, 9, 11, 11, 14, 14], [1, 6, 11, 11, 11, 14, 14], [1, 7, 7, 7, 9, 13, 14], [1, 7, 7, 7, 12, 13, 13], [1, 7, 7, 7, 13, 13, 13], [1, 7, 7, 7, 13, 13, 14], [1, 7, 7, 8, 9, 14, 14], [1, 7, 7, 9, 9, 14, 14], [1, 7, 7, 9, 11, 14, 14], [1, 7, 7, 11, 12, 13, 14], [1, 7, 7, 11, 13, 13, 14], [1, 7, 7, 11, 13, 14, 14], [1, 7, 11, 11, 12, 14, 14], [1, 7, 11, 11, 13, 14, 14], [1, 7, 11, 11, 14, 14, 14], [2, 2, 2, 2, 8, 8, 8], [2, 2, 2, 3, 8, 8, 8], [2, 2, 2, 3, 8, 8, 12], [2, 2, 2, 4, 4, 9, 9], [2, 2, 2, 4, 8, 8, 9], [2, 2, 2, 4, 8, 9, 9], [2, 2, 2, 4, 8, 9, 11], [2, 2, 2, 4, 8, 11, 13], [2, 2, 2, 4, 9, 11, 12], [2, 2, 2, 6, 8, 8, 9], [2, 2, 2, 7, 8, 8, 9], [2, 2, 2, 7, 8, 9, 12], [2, 2, 2, 8, 8, 11, 12], [2, 2, 2, 8, 8, 11, 13], [2, 2, 2, 8, 8, 11, 14], [2, 2, 2, 8, 9, 11, 12], [2, 2, 2, 8, 11, 11, 12], [2, 2, 2, 11, 11, 12, 12], [2, 2, 3, 3, 8, 8, 12], [2, 2, 3, 3, 8, 12, 12], [2, 2, 3, 4, 4, 9, 9], [2, 2, 3, 4, 4, 9, 13], [2, 2, 3, 4, 8, 8, 13], [2, 2, 3, 4, 8, 9, 12], [2, 2, 3, 4, 8, 9, 13], [2, 2, 3, 4, 8, 9, 14], [2, 2, 3, 4, 8, 11, 13], [2, 2, 3, 4, 9, 9, 12], [2, 2, 3, 4, 9, 11, 12], [2, 2, 3, 4, 11, 12, 13], [2, 2, 3, 6, 8, 8, 9], [2, 2, 3, 6, 8, 8, 13], [2, 2, 3, 6, 8, 9, 12], [2, 2, 3, 7, 8, 8, 13], [2, 2, 3, 7, 8, 9, 12], [2, 2, 3, 7, 8, 12, 13], [2, 2, 3, 7, 9, 12, 12], [2, 2, 3, 8, 8, 8, 14], [2, 2, 3, 8, 8, 9, 14], [2, 2, 3, 8, 8, 11, 14]]
noncomputable def keyPart7 : List (List Nat) := [[2, 2, 3, 8, 11, 12, 12], [2, 2, 3, 8, 11, 12, 13], [2, 2, 3, 8, 11, 12, 14], [2, 2, 3, 9, 11, 12, 12], [2, 2, 3, 11, 11, 12, 12], [2, 2, 4, 4, 9, 11, 13], [2, 2, 4, 6, 8, 9, 9], [2, 2, 4, 6, 9, 9, 9], [2, 2, 4, 6, 9, 9, 11], [2, 2, 4, 6, 9, 11, 13], [2, 2, 4, 7, 8, 9, 13], [2, 2, 4, 7, 9, 9, 12], [2, 2, 4, 7, 9, 9, 13], [2, 2, 4, 7, 9, 9, 14], [2, 2, 4, 7, 9, 11, 13], [2, 2, 4, 7, 11, 13, 13], [2, 2, 4, 8, 9, 11, 14], [2, 2, 4, 9, 9, 11, 14], [2, 2, 4, 9, 11, 11, 14], [2, 2, 4, 11, 11, 12, 13], [2, 2, 4, 11, 11, 13, 13], [2, 2, 4, 11, 11, 13, 14], [2, 2, 6, 6, 8, 9, 9], [2, 2, 6, 7, 8, 9, 9], [2, 2, 6, 7, 8, 9, 13], [2, 2, 6, 7, 9, 9, 12], [2, 2, 6, 8, 8, 11, 13], [2, 2, 6, 8, 9, 11, 12], [2, 2, 6, 8, 9, 11, 13], [2, 2, 6, 8, 9, 11, 14], [2, 2, 6, 8, 11, 11, 13], [2, 2, 6, 9, 9, 11, 12], [2, 2, 6, 9, 11, 11, 12], [2, 2, 6, 11, 11, 12, 13], [2, 2, 7, 7, 8, 9, 13], [2, 2, 7, 7, 9, 9, 12], [2, 2, 7, 7, 9, 12, 13], [2, 2, 7, 8, 8, 9, 14], [2, 2, 7, 8, 9, 9, 14], [2, 2, 7, 8, 9, 11, 14], [2, 2, 7, 8, 11, 12, 13], [2, 2, 7, 8, 11, 13, 13], [2, 2, 7, 8, 11, 13, 14], [2, 2, 7, 9, 11, 12, 12], [2, 2, 7, 9, 11, 12, 13], [2, 2, 7, 9, 11, 12, 14], [2, 2, 7, 11, 11, 12, 13], [2, 2, 8, 11, 11, 12, 14], [2, 2, 8, 11, 11, 13, 14], [2, 2, 8, 11, 11, 14, 14], [2, 2, 9, 11, 11, 12, 14], [2, 2, 11, 11, 11, 12, 14], [2, 3, 3, 3, 8, 12, 12], [2, 3, 3, 3, 12, 12, 12], [2, 3, 3, 4, 4, 9, 13], [2, 3, 3, 4, 4, 13, 13], [2, 3, 3, 4, 8, 9, 14], [2, 3, 3, 4, 8, 12, 13], [2, 3, 3, 4, 8, 13, 13]]
noncomputable def keyPart8 : List (List Nat) := [[2, 3, 3, 4, 8, 13, 14], [2, 3, 3, 4, 9, 12, 12], [2, 3, 3, 4, 9, 12, 13], [2, 3, 3, 4, 9, 12, 14], [2, 3, 3, 4, 11, 12, 13], [2, 3, 3, 6, 8, 8, 13], [2, 3, 3, 6, 8, 9, 12], [2, 3, 3, 6, 8, 12, 13], [2, 3, 3, 6, 9, 12, 12], [2, 3, 3, 7, 8, 12, 13], [2, 3, 3, 7, 9, 12, 12], [2, 3, 3, 7, 12, 12, 13], [2, 3, 3, 8, 8, 12, 14], [2, 3, 3, 8, 8, 13, 14], [2, 3, 3, 8, 8, 14, 14], [2, 3, 3, 8, 9, 12, 14], [2, 3, 3, 8, 11, 12, 14], [2, 3, 3, 11, 12, 12, 12], [2, 3, 3, 11, 12, 12, 13], [2, 3, 3, 11, 12, 12, 14], [2, 3, 4, 4, 9, 9, 14], [2, 3, 4, 4, 11, 13, 13], [2, 3, 4, 6, 8, 9, 13], [2, 3, 4, 6, 9, 9, 12], [2, 3, 4, 6, 9, 9, 13], [2, 3, 4, 6, 9, 9, 14], [2, 3, 4, 6, 9, 11, 13], [2, 3, 4, 6, 11, 13, 13], [2, 3, 4, 7, 8, 13, 13], [2, 3, 4, 7, 9, 9, 14], [2, 3, 4, 7, 9, 12, 13], [2, 3, 4, 7, 9, 13, 13], [2, 3, 4, 7, 9, 13, 14], [2, 3, 4, 7, 11, 13, 13], [2, 3, 4, 8, 11, 13, 14], [2, 3, 4, 9, 11, 12, 14], [2, 3, 4, 9, 11, 13, 14], [2, 3, 4, 9, 11, 14, 14], [2, 3, 4, 11, 11, 13, 14], [2, 3, 6, 6, 8, 9, 9], [2, 3, 6, 6, 8, 9, 13], [2, 3, 6, 6, 9, 9, 12], [2, 3, 6, 7, 8, 9, 13], [2, 3, 6, 7, 8, 13, 13], [2, 3, 6, 7, 9, 9, 12], [2, 3, 6, 7, 9, 12, 13], [2, 3, 6, 8, 8, 9, 14], [2, 3, 6, 8, 9, 9, 14], [2, 3, 6, 8, 9, 11, 14], [2, 3, 6, 8, 11, 12, 13], [2, 3, 6, 8, 11, 13, 13], [2, 3, 6, 8, 11, 13, 14], [2, 3, 6, 9, 11, 12, 12], [2, 3, 6, 9, 11, 12, 13], [2, 3, 6, 9, 11, 12, 14], [2, 3, 6, 11, 11, 12, 13], [2, 3, 7, 7, 8, 13, 13], [2, 3, 7, 7, 9, 12, 13], [2, 3, 7, 7, 12, 13, 13]]
noncomputable def keyPart9 : List (List Nat) := [[2, 3, 7, 8, 8, 13, 14], [2, 3, 7, 8, 9, 12, 14], [2, 3, 7, 8, 9, 13, 14], [2, 3, 7, 8, 9, 14, 14], [2, 3, 7, 8, 11, 13, 14], [2, 3, 7, 9, 9, 12, 14], [2, 3, 7, 9, 11, 12, 14], [2, 3, 7, 11, 12, 12, 13], [2, 3, 7, 11, 12, 13, 13], [2, 3, 7, 11, 12, 13, 14], [2, 3, 8, 8, 11, 14, 14], [2, 3, 8, 9, 11, 14, 14], [2, 3, 8, 11, 11, 14, 14], [2, 3, 11, 11, 12, 12, 14], [2, 3, 11, 11, 12, 13, 14], [2, 3, 11, 11, 12, 14, 14], [2, 4, 6, 6, 9, 9, 9], [2, 4, 6, 7, 9, 9, 13], [2, 4, 6, 9, 9, 11, 14], [2, 4, 6, 11, 11, 13, 13], [2, 4, 7, 7, 9, 13, 13], [2, 4, 7, 9, 11, 13, 14], [2, 4, 9, 11, 11, 14, 14], [2, 6, 6, 6, 9, 9, 9], [2, 6, 6, 7, 9, 9, 9], [2, 6, 6, 7, 9, 9, 13], [2, 6, 6, 8, 9, 11, 13], [2, 6, 6, 9, 9, 11, 12], [2, 6, 6, 9, 9, 11, 13], [2, 6, 6, 9, 9, 11, 14], [2, 6, 6, 9, 11, 11, 13], [2, 6, 6, 11, 11, 13, 13], [2, 6, 7, 7, 9, 9, 13], [2, 6, 7, 7, 9, 13, 13], [2, 6, 7, 8, 9, 9, 14], [2, 6, 7, 8, 11, 13, 13], [2, 6, 7, 9, 9, 9, 14], [2, 6, 7, 9, 9, 11, 14], [2, 6, 7, 9, 11, 12, 13], [2, 6, 7, 9, 11, 13, 13], [2, 6, 7, 9, 11, 13, 14], [2, 6, 7, 11, 11, 13, 13], [2, 6, 8, 11, 11, 13, 14], [2, 6, 9, 11, 11, 12, 14], [2, 6, 9, 11, 11, 13, 14], [2, 6, 9, 11, 11, 14, 14], [2, 6, 11, 11, 11, 13, 14], [2, 7, 7, 7, 9, 13, 13], [2, 7, 7, 8, 9, 13, 14], [2, 7, 7, 9, 9, 12, 14], [2, 7, 7, 9, 9, 13, 14], [2, 7, 7, 9, 9, 14, 14], [2, 7, 7, 9, 11, 13, 14], [2, 7, 7, 11, 12, 13, 13], [2, 7, 7, 11, 13, 13, 13], [2, 7, 7, 11, 13, 13, 14], [2, 7, 8, 9, 11, 14, 14], [2, 7, 9, 9, 11, 14, 14], [2, 7, 9, 11, 11, 14, 14]]
noncomputable def keyPart10 : List (List Nat) := [[2, 7, 11, 11, 12, 13, 14], [2, 7, 11, 11, 13, 13, 14], [2, 7, 11, 11, 13, 14, 14], [2, 11, 11, 11, 12, 14, 14], [2, 11, 11, 11, 13, 14, 14], [2, 11, 11, 11, 14, 14, 14], [3, 3, 3, 3, 12, 12, 12], [3, 3, 3, 4, 4, 13, 13], [3, 3, 3, 4, 8, 13, 14], [3, 3, 3, 4, 9, 12, 14], [3, 3, 3, 4, 12, 12, 13], [3, 3, 3, 4, 12, 13, 13], [3, 3, 3, 4, 12, 13, 14], [3, 3, 3, 6, 8, 12, 13], [3, 3, 3, 6, 12, 12, 13], [3, 3, 3, 7, 12, 12, 13], [3, 3, 3, 8, 8, 14, 14], [3, 3, 3, 8, 12, 12, 14], [3, 3, 3, 8, 12, 13, 14], [3, 3, 3, 8, 12, 14, 14], [3, 3, 3, 9, 12, 12, 14], [3, 3, 3, 11, 12, 12, 14], [3, 3, 4, 4, 9, 13, 14], [3, 3, 4, 6, 8, 13, 13], [3, 3, 4, 6, 9, 9, 14], [3, 3, 4, 6, 9, 12, 13], [3, 3, 4, 6, 9, 13, 13], [3, 3, 4, 6, 9, 13, 14], [3, 3, 4, 6, 11, 13, 13], [3, 3, 4, 7, 9, 13, 14], [3, 3, 4, 7, 12, 13, 13], [3, 3, 4, 7, 13, 13, 13], [3, 3, 4, 7, 13, 13, 14], [3, 3, 4, 8, 9, 14, 14], [3, 3, 4, 9, 9, 14, 14], [3, 3, 4, 9, 11, 14, 14], [3, 3, 4, 11, 12, 13, 14], [3, 3, 4, 11, 13, 13, 14], [3, 3, 4, 11, 13, 14, 14], [3, 3, 6, 6, 8, 9, 13], [3, 3, 6, 6, 8, 13, 13], [3, 3, 6, 6, 9, 12, 13], [3, 3, 6, 7, 8, 13, 13], [3, 3, 6, 7, 9, 12, 13], [3, 3, 6, 7, 12, 13, 13], [3, 3, 6, 8, 8, 13, 14], [3, 3, 6, 8, 9, 12, 14], [3, 3, 6, 8, 9, 13, 14], [3, 3, 6, 8, 9, 14, 14], [3, 3, 6, 8, 11, 13, 14], [3, 3, 6, 9, 9, 12, 14], [3, 3, 6, 9, 11, 12, 14], [3, 3, 6, 11, 12, 12, 13], [3, 3, 6, 11, 12, 13, 13], [3, 3, 6, 11, 12, 13, 14], [3, 3, 7, 7, 12, 13, 13], [3, 3, 7, 8, 9, 14, 14], [3, 3, 7, 8, 12, 13, 14], [3, 3, 7, 8, 13, 13, 14]]
noncomputable def keyPart11 : List (List Nat) := [[3, 3, 7, 8, 13, 14, 14], [3, 3, 7, 9, 12, 12, 14], [3, 3, 7, 9, 12, 13, 14], [3, 3, 7, 9, 12, 14, 14], [3, 3, 7, 11, 12, 13, 14], [3, 3, 8, 11, 12, 14, 14], [3, 3, 8, 11, 13, 14, 14], [3, 3, 8, 11, 14, 14, 14], [3, 3, 9, 11, 12, 14, 14], [3, 3, 11, 11, 12, 14, 14], [3, 4, 6, 6, 9, 9, 13], [3, 4, 6, 7, 9, 13, 13], [3, 4, 6, 9, 11, 13, 14], [3, 4, 7, 7, 13, 13, 13], [3, 4, 7, 9, 9, 14, 14], [3, 4, 7, 11, 13, 13, 14], [3, 4, 11, 11, 13, 14, 14], [3, 6, 6, 6, 9, 9, 13], [3, 6, 6, 7, 9, 9, 13], [3, 6, 6, 7, 9, 13, 13], [3, 6, 6, 8, 9, 9, 14], [3, 6, 6, 8, 11, 13, 13], [3, 6, 6, 9, 9, 9, 14], [3, 6, 6, 9, 9, 11, 14], [3, 6, 6, 9, 11, 12, 13], [3, 6, 6, 9, 11, 13, 13], [3, 6, 6, 9, 11, 13, 14], [3, 6, 6, 11, 11, 13, 13], [3, 6, 7, 7, 9, 13, 13], [3, 6, 7, 7, 13, 13, 13], [3, 6, 7, 8, 9, 13, 14], [3, 6, 7, 9, 9, 12, 14], [3, 6, 7, 9, 9, 13, 14], [3, 6, 7, 9, 9, 14, 14], [3, 6, 7, 9, 11, 13, 14], [3, 6, 7, 11, 12, 13, 13], [3, 6, 7, 11, 13, 13, 13], [3, 6, 7, 11, 13, 13, 14], [3, 6, 8, 9, 11, 14, 14], [3, 6, 9, 9, 11, 14, 14], [3, 6, 9, 11, 11, 14, 14], [3, 6, 11, 11, 12, 13, 14], [3, 6, 11, 11, 13, 13, 14], [3, 6, 11, 11, 13, 14, 14], [3, 7, 7, 7, 13, 13, 13], [3, 7, 7, 8, 13, 13, 14], [3, 7, 7, 9, 9, 14, 14], [3, 7, 7, 9, 12, 13, 14], [3, 7, 7, 9, 13, 13, 14], [3, 7, 7, 9, 13, 14, 14], [3, 7, 7, 11, 13, 13, 14], [3, 7, 8, 11, 13, 14, 14], [3, 7, 9, 11, 12, 14, 14], [3, 7, 9, 11, 13, 14, 14], [3, 7, 9, 11, 14, 14, 14], [3, 7, 11, 11, 13, 14, 14], [3, 8, 11, 11, 14, 14, 14], [3, 9, 11, 11, 14, 14, 14], [3, 11, 11, 11, 14, 14, 14]]
noncomputable def keyTable : List (List Nat) := keyPart0 ++ keyPart1 ++ keyPart2 ++ keyPart3 ++ keyPart4 ++ keyPart5 ++ keyPart6 ++ keyPart7 ++ keyPart8 ++ keyPart9 ++ keyPart10 ++ keyPart11
theorem keyPart0_ok : allB okKey keyPart0 = true := by decide +kernel
theorem keyPart1_ok : allB okKey keyPart1 = true := by decide +kernel
theorem keyPart2_ok : allB okKey keyPart2 = true := by decide +kernel
theorem keyPart3_ok : allB okKey keyPart3 = true := by decide +kernel
theorem keyPart4_ok : allB okKey keyPart4 = true := by decide +kernel
theorem keyPart5_ok : allB okKey keyPart5 = true := by decide +kernel
theorem keyPart6_ok : allB okKey keyPart6 = true := by decide +kernel
theorem keyPart7_ok : allB okKey keyPart7 = true := by decide +kernel
theorem keyPart8_ok : allB okKey keyPart8 = true := by decide +kernel
theorem keyPart9_ok : allB okKey keyPart9 = true := by decide +kernel
theorem keyPart10_ok : allB okKey keyPart10 = true := by decide +kernel
theorem keyPart11_ok : allB okKey keyPart11 = true := by decide +kernel
theorem table_chk : keysK 6 (fun a b c d => eqLB (mrg 2000 (b.map (insN 1)) (mrg 2000 (c.map (insN 2)) (d.map (insN 3)))) keyTable) = true := by decide +kernel
theorem table_eq : keysN 7 0 = keyTable := by
  have h := table_chk
  rw [keysK_eq] at h
  exact eqLB_sound h
theorem allB_all {f : List Nat → Bool} : ∀ {l : List (List Nat)}, allB f l = true → ∀ x ∈ l, f x = true
  | [], _, x, hx => by cases hx
  | y :: r, h, x, hx => by
    unfold allB at h
    cases e : f y with
    | false => rw [e] at h; cases h
    | true =>
      rw [e] at h
      rcases List.mem_cons.mp hx with rfl | hx
      · exact e
      · exact allB_all h x hx
theorem table_ok : ∀ K ∈ keyTable, okKey K = true := fun K h => by
  unfold keyTable at h
  simp only [List.mem_append] at h
  rcases h with ((((((((((h | h) | h) | h) | h) | h) | h) | h) | h) | h) | h) | h
  · exact allB_all keyPart0_ok K h
  · exact allB_all keyPart1_ok K h
  · exact allB_all keyPart2_ok K h
  · exact allB_all keyPart3_ok K h
  · exact allB_all keyPart4_ok K h
  · exact allB_all keyPart5_ok K h
  · exact allB_all keyPart6_ok K h
  · exact allB_all keyPart7_ok K h
  · exact allB_all keyPart8_ok K h
  · exact allB_all keyPart9_ok K h
  · exact allB_all keyPart10_ok K h
  · exact allB_all keyPart11_ok K h
end Mine

namespace Mine
open PySem PySem.Calls PySem.Spec PyProof.Rows
set_option maxRecDepth 100000
set_option linter.unusedVariables false
set_option linter.unusedSimpArgs false

theorem goodB_sound : ∀ (l : List Nat) (n p : Nat), goodB n p l = true → l.length ≤ n ∧ (∀ c ∈ l, c ∈ [97, 98, 99, 100]) ∧ (∀ x, l[0]? = some x → x ≠ p) ∧ Unlike l
  | [], n, p, _ => ⟨Nat.zero_le _, (by intro c h; cases h), (by intro x h; cases h), (by intro i x y h; cases h)⟩
  | x :: r, 0, p, h => by simp [goodB] at h
  | x :: r, n + 1, p, h => by
    unfold goodB at h
    cases h1 : Nat.beq x p with
    | true => rw [h1] at h; cases h
    | false =>
    cases h2 : Nat.ble 97 x with
    | false => rw [h1, h2] at h; cases h
    | true =>
    cases h3 : Nat.ble x 100 with
    | false => rw [h1, h2, h3] at h; cases h
    | true =>
    rw [h1, h2, h3] at h
    obtain ⟨a, b, c, d⟩ := goodB_sound r n x h
    have h1 := Nat.ne_of_beq_eq_false h1
    have h2 := Nat.le_of_ble_eq_true h2
    have h3 := Nat.le_of_ble_eq_true h3
    refine ⟨by rw [List.length_cons]; omega, fun e he => ?_, fun y hy => ?_, fun i y z hy hz => ?_⟩
    · rcases List.mem_cons.mp he with rfl | he
      · simp only [List.mem_cons, List.not_mem_nil, or_false]; omega
      · exact b e he
    · have : x = y := Option.some.inj hy
      rw [← this]; exact h1
    · match i with
      | 0 =>
        have : x = y := Option.some.inj hy
        have hz : r[0]? = some z := hz
        rw [← this]; exact (c z hz).symm
      | i + 1 => exact d i y z hy hz
theorem unlike_rev {T : List Nat} (h : Unlike T) : Unlike T.reverse := fun i x y hx hy => by
  have hl : i + 1 < T.length := by
    rcases Nat.lt_or_ge (i + 1) T.length with q | q
    · exact q
    · rw [List.getElem?_eq_none (by rw [List.length_reverse]; exact q)] at hy; cases hy
  rw [List.getElem?_reverse (by omega)] at hx hy
  have e : T.length - 1 - i = (T.length - 1 - (i + 1)) + 1 := by omega
  rw [e] at hx
  exact (h _ y x hy hx).symm

theorem okKey_sound {K : List Nat} (h : okKey K = true) : (walksB 7 0 K).length < 64 ∧ (∀ r ∈ walksB 7 0 K, r.length ≤ 60 ∧ ∀ side, readOk side (sided side r)) ∧
    sortL ((walksB 7 0 K).map fun r => plain r 1) = sortL ((walksB 7 0 K).map fun r => plain r (-1)) := by
  unfold okKey at h
  rw [fll_eq] at h
  generalize walksB 7 0 K = ev at h
  cases h1 : Nat.ble ev.length 63 with
  | false => rw [h1] at h; cases h
  | true =>
  cases h2 : allB goodR ev with
  | false => rw [h1, h2] at h; cases h
  | true =>
  rw [h1, h2] at h
  simp only [cond_true, fll_eq, plainB_eq, sortB_eq] at h
  refine ⟨by have := Nat.le_of_ble_eq_true h1; omega, fun r hr => ?_, eqLB_sound h⟩
  have hg := allB_all h2 r hr
  match r, hg with
  | x :: r, hg =>
    obtain ⟨a, b, c, d⟩ := goodB_sound (x :: r) 60 0 hg
    refine ⟨a, fun side => ?_⟩
    unfold sided
    split
    · exact readOk_all (by simp) b d
    · exact readOk_all (by simp) (fun e he => b e (List.mem_reverse.mp he)) (unlike_rev d)

noncomputable def codes : Nat → List Nat → List Nat
  | _, [] => []
  | p, x :: l => (4 * p + step p x) :: codes (step p x) l
noncomputable def pairs : Nat → List Nat → List (List Nat)
  | _, [] => []
  | p, x :: l => [97 + p, 97 + step p x] :: pairs (step p x) l
theorem step_lt (p x : Nat) : step p x < 4 := Nat.mod_lt _ (by omega)
theorem pairs_eq : ∀ (l : List Nat) (p : Nat), (codes p l).map dec = pairs p l
  | [], _ => rfl
  | x :: l, p => by
    have := step_lt p x
    show dec (4 * p + step p x) :: (codes (step p x) l).map dec = [97 + p, 97 + step p x] :: pairs (step p x) l
    rw [pairs_eq l]
    unfold dec
    rw [show (4 * p + step p x) / 4 = p by omega, show (4 * p + step p x) % 4 = step p x by omega]
theorem steps_pairs {l : List Nat} (h : l.length = 7) : stepsOf (walkOf l) = pairs 0 l := by
  match l, h with
  | [a, b, c, d, e, f, g], _ => rfl
theorem dec_lt (y x : Nat) : dec y < dec x ↔ y < x := by
  unfold dec
  rw [List.cons_lt_cons_iff, List.cons_lt_cons_iff]
  simp
  omega
theorem insN_eq (x : Nat) : ∀ l : List Nat, insL (dec x) (l.map dec) = (insN x l).map dec
  | [] => rfl
  | y :: r => by
    show (if dec y < dec x then dec y :: insL (dec x) (r.map dec) else dec x :: dec y :: r.map dec) = (bif Nat.ble x y then x :: y :: r else y :: insN x r).map dec
    rw [insN_eq x r]
    cases h : Nat.ble x y with
    | true =>
      have := Nat.le_of_ble_eq_true h
      rw [if_neg (by rw [dec_lt]; omega)]; rfl
    | false =>
      have : ¬ x ≤ y := fun q => by rw [Nat.ble_eq_true_of_le q] at h; cases h
      rw [if_pos (by rw [dec_lt]; omega)]; rfl
theorem sortN_eq : ∀ l : List Nat, sortL (l.map dec) = (sortN l).map dec
  | [] => rfl
  | x :: l => by
    show insL (dec x) (sortL (l.map dec)) = (insN x (sortN l)).map dec
    rw [sortN_eq l, insN_eq]
theorem mem_keys : ∀ (l : List Nat) (p : Nat), sortN (codes p l) ∈ keysN l.length p
  | [], p => .head _
  | x :: l, p => by
    have ih := mem_keys l (step p x)
    show insN (4 * p + step p x) (sortN (codes (step p x) l)) ∈ keysN (l.length + 1) p
    have h3 : x % 3 < 3 := Nat.mod_lt _ (by omega)
    unfold keysN
    have hs : step p x = (p + 1) % 4 ∨ step p x = (p + 2) % 4 ∨ step p x = (p + 3) % 4 := by unfold step; omega
    rcases hs with e | e | e
    · rw [e] at ih ⊢; exact mem_mrg _ _ _ (.inl (List.mem_map_of_mem ih))
    · rw [e] at ih ⊢; exact mem_mrg _ _ _ (.inr (mem_mrg _ _ _ (.inl (List.mem_map_of_mem ih))))
    · rw [e] at ih ⊢; exact mem_mrg _ _ _ (.inr (mem_mrg _ _ _ (.inr (List.mem_map_of_mem ih))))

/-- the plain law -/
theorem law_ok {l : List Nat} (h : l.length = 7) : LawOk (walkOf l) := by
  have e : everyOf (walkOf l) = walksB 7 0 (sortN (codes 0 l)) := by
    unfold everyOf
    rw [steps_pairs h, ← pairs_eq, sortN_eq]
    exact walksB_eq 7 0 _
  have m := mem_keys l 0
  rw [h, table_eq] at m
  obtain ⟨a, b, c⟩ := okKey_sound (table_ok _ m)
  exact ⟨by rw [e]; exact a, by rw [e]; exact b, by rw [e]; exact c⟩
theorem law_all (xs : List Int) : LawOk (walkOf (givenOf xs)) := law_ok (givenOf_length xs)
end Mine

namespace Mine
open PySem PySem.Calls PySem.Spec PyProof.Rows PySem.W
set_option maxRecDepth 100000
set_option linter.unusedVariables false
set_option linter.unusedSimpArgs false

-- the heap behind the top, without the two tables that a first use fills
noncomputable def cutK (K : Frag) : Frag := K.filter fun p => !(Nat.beq p.1 62 || Nat.beq p.1 69)
theorem cutK_eq : ∀ (K : Frag) (a : Addr), (cutK K).lookup a = if a = 62 ∨ a = 69 then none else K.lookup a
  | [], a => by simp [cutK]
  | p :: K, a => by
    have ih := cutK_eq K a
    unfold cutK at ih ⊢
    rw [List.filter_cons]
    cases h : (Nat.beq p.1 62 || Nat.beq p.1 69) with
    | true =>
      simp only [Bool.not_true, Bool.false_eq_true, if_false]
      rw [ih]
      split
      · rfl
      · rename_i hn
        rw [List.lookup_cons]
        have hp : p.1 = 62 ∨ p.1 = 69 := (Bool.or_eq_true_iff.mp h).imp Nat.eq_of_beq_eq_true Nat.eq_of_beq_eq_true
        have : (a == p.1) = false := beq_eq_false_iff_ne.mpr fun q => hn (q ▸ hp)
        rw [this]
    | false =>
      simp only [Bool.not_false, if_true]
      rw [List.lookup_cons, List.lookup_cons, ih]
      cases e : a == p.1 with
      | true =>
        have e := eq_of_beq e
        subst e
        obtain ⟨h1, h2⟩ := Bool.or_eq_false_iff.mp h
        show some p.2 = if p.1 = 62 ∨ p.1 = 69 then none else some p.2
        rw [if_neg (fun q => q.elim (Nat.ne_of_beq_eq_false h1) (Nat.ne_of_beq_eq_false h2))]
      | false => rfl
theorem cutK_in {K : Frag} {h : Heap} (X : K.In h) : (cutK K).In h := fun a o e => by
  rw [cutK_eq] at e
  split at e
  · cases e
  · exact X a o e

noncomputable def objK (K : Frag) (a : Addr) : Obj := (K.lookup a).getD default
noncomputable def fdK (K : Frag) (a : Addr) : FuncData := match (objK K a).data with | .func fd => fd | _ => default
noncomputable def cdK (K : Frag) (a : Addr) : ClassData := match (objK K a).data with | .cls cd => cd | _ => default
noncomputable def fieldsK (K : Frag) (a : Addr) : Array Value := match (objK K a).data with | .fields vs => vs | _ => #[]
noncomputable def tokOf : Value → Tok | .str _ t => t | .int _ t => t | _ => 0
noncomputable def wordOf : Value → Str | .str x _ => x | _ => default
noncomputable def numOf : Value → Int | .int x _ => x | _ => 0
noncomputable def bitOf : Value → Bool | .bool b => b | _ => false
noncomputable def seqTok (K : Frag) (a : Addr) : Tok := match (objK K a).data with | .seq vs _ => tokOf (vs.getD 0 .none) | _ => 0
noncomputable def findK (K : Frag) (a : Addr) (x : Str) : Option Value := match (objK K a).data with | .dict es _ => (es.toList.find? fun e => e.key.isStr x).map (·.val) | _ => none
noncomputable def wordAt (K : Frag) (a : Addr) (x : Str) : Tok := match findK K a x with | some v => tokOf v | _ => 0
theorem at_of {K : Frag} {a : Addr} (h : (K.lookup a).isSome = true) : K.lookup a = some (objK K a) := by
  obtain ⟨o, e⟩ := Option.isSome_iff_exists.mp h
  unfold objK
  rw [e]; rfl
theorem obj_eta {o : Obj} {d : Data} (h : o.data = d) : o = ⟨o.cls, o.dict, d, o.slots⟩ := by subst h; rfl

theorem find_of {K : Frag} {h : Heap} {a : Addr} {m : Str → Option Value} {x : Str} {r : Option Value} (X : K.In h) (hs : (K.lookup a).isSome = true) (N : h.Ns a m) (e : findK K a x = r) : m x = r := by
  obtain ⟨o, es, ep, ho, hd, _, hf⟩ := N
  have := X _ _ (at_of hs)
  rw [ho] at this
  have := Option.some.inj this
  subst this
  unfold findK at e
  rw [hd] at e
  rw [← hf, ← e]
  unfold nsFind findBy
  rw [← Array.find?_toList]

noncomputable def FnK (K : Frag) (a : Addr) (st : Stmt) : Prop :=
  (K.lookup a).isSome = true ∧ (objK K a).data = .func (defOf st (fdK K a).pyModule (fdK K a).code (fdK K a).doc) ∧ codeIn K (fdK K a).code (fdK K a).qualname = true
noncomputable def MethK (K : Frag) (a : Addr) (st : Stmt) (clo : List (Str × Addr)) (cd df : Value) : Prop :=
  (K.lookup a).isSome = true ∧ (objK K a).data = .func (mOf st (fdK K a).qualname clo df (fdK K a).pyModule cd (fdK K a).doc (fdK K a).closureTuple) ∧ codeIn K cd (fdK K a).qualname = true
noncomputable def TabK (K : Frag) (c P : Addr) : Prop :=
  (K.lookup c).isSome = true ∧ (objK K c).cls = .type "code" ∧ (objK K c).data = .fields (fieldsK K c) ∧ (fieldsK K c)[11]? = some (.ref P) ∧ (fieldsK K c).getD 11 .none = .ref P ∧ (fieldsK K c).getD 18 .none = .str (wordOf ((fieldsK K c).getD 18 .none)) (tokOf ((fieldsK K c).getD 18 .none)) ∧
    (fieldsK K c).getD 7 .none = .int (numOf ((fieldsK K c).getD 7 .none)) (tokOf ((fieldsK K c).getD 7 .none)) ∧ (fieldsK K c).getD 9 .none = .bool (bitOf ((fieldsK K c).getD 9 .none)) ∧ (fieldsK K c).getD 10 .none = .int (numOf ((fieldsK K c).getD 10 .none)) (tokOf ((fieldsK K c).getD 10 .none)) ∧
    K.lookup P = some { cls := .none, data := .fields #[] }
noncomputable def CodeK (prog : Program) (K : Frag) (c : Addr) : Prop :=
  (K.lookup c).isSome = true ∧ (objK K c).data = .fields (fieldsK K c) ∧ (fieldsK K c)[2]? = some (.str (wordOf ((fieldsK K c).getD 2 .none)) (tokOf ((fieldsK K c).getD 2 .none))) ∧ (prog.main.file == wordOf ((fieldsK K c).getD 2 .none)) = true

/-- what is asked of the heap behind the top -/
structure Facts (prog : Program) (K : Frag) : Prop where
  g : (K.lookup mainGlobals).isSome = true
  b : List.lookup 0 K = none
  c : (K.lookup cStatics).isSome = true
  bm : findK K mainGlobals "__builtins__" = some (.ref (match findK K mainGlobals "__builtins__" with | some (.ref b) => b | _ => 0))
  bms : (K.lookup (match findK K mainGlobals "__builtins__" with | some (.ref b) => b | _ => 0)).isSome = true
  f5 : FnK K 111 (stmtAt 5)
  f6 : FnK K 118 (stmtAt 6)
  f9 : FnK K 125 (stmtAt 9)
  f11 : FnK K 132 (stmtAt 11)
  f12 : FnK K 137 (stmtAt 12)
  f13 : FnK K 142 (stmtAt 13)
  f14 : FnK K 147 (stmtAt 14)
  f15 : FnK K 154 (stmtAt 15)
  f16 : FnK K 159 (stmtAt 16)
  m0 : MethK K 38 (methStmt 0) [("__class__", 25)] (.ref 37) (.ref 30)
  m1 : MethK K 45 (methStmt 1) [] (fdK K 45).code .none
  m2 : MethK K 53 (methStmt 2) [] (fdK K 53).code (.ref 46)
  m4 : MethK K 67 (methStmt 4) [] (.ref 66) .none
  m5 : MethK K 74 (methStmt 5) [] (.ref 73) .none
  m8 : MethK K 97 (methStmt 8) [("__class__", 25)] (.ref 96) .none
  d30 : K.lookup 30 = some (seqO "tuple" #[.int 0 (seqTok K 30)] 0)
  d46 : K.lookup 46 = some (seqO "tuple" #[.int 0 (seqTok K 46)] 0)
  x1 : findK K mainGlobals "hsv_to_rgb" = some (.ref 118)
  x2 : findK K mainGlobals "rgb_to_hls" = some (.ref 111)
  x3 : findK K mainGlobals "_law_walk" = some (.ref 132)
  x4 : findK K mainGlobals "_law_walks" = some (.ref 137)
  x5 : findK K mainGlobals "_law_named" = some (.ref 142)
  x6 : findK K mainGlobals "_law_read" = some (.ref 147)
  x7 : findK K mainGlobals "_law_plain" = some (.ref 154)
  x8 : findK K mainGlobals "_ellipsis_match" = some (.ref 125)
  x9 : findK K mainGlobals "_Accumulator" = some (.ref 100)
  x10 : findK K mainGlobals "law" = some (.ref 159)
  mark : findK K mainGlobals "ELLIPSIS_MARKER" = some (.str (S dots) (wordAt K mainGlobals "ELLIPSIS_MARKER"))
  empty : findK K mainGlobals "EMPTYSTRING" = some (.str (S []) (wordAt K mainGlobals "EMPTYSTRING"))
  o1 : findK K mainGlobals "min" = none
  o2 : findK K mainGlobals "range" = none
  o3 : findK K mainGlobals "len" = none
  o4 : findK K mainGlobals "sorted" = none
  o5 : findK K mainGlobals "int" = none
  o6 : findK K mainGlobals "max" = none
  o7 : findK K mainGlobals "sum" = none
  o8 : findK K mainGlobals "str" = none
  o9 : findK K mainGlobals "super" = none
  booked : findK K cStatics sharingNotToldKey = none
  top : (prog.main.scope.names.lookup ("super" : Str)).isSome = false
  cell0 : (K.lookup 25).isSome = true
  cell1 : (objK K 25).data = .cell (some (.ref 100))
  cls0 : (K.lookup 100).isSome = true
  cls1 : (objK K 100).data = .cls (cdK K 100)
  c37 : CodeK prog K 37
  c96 : CodeK prog K 96
  mro : mroIn K 100 (.type "list") = some true
  deq : mroIn K 100 (.type "collections.deque") = some false
  selfm : mroIn K 100 (.ref 100) = some true
  crt1 : (cdK K 100).abstract = false
  crt2 : (cdK K 100).hasDel = false
  crt3 : (cdK K 100).mro = [.ref 100, .type "list", .type "object"]
  crt4 : ((objK K 100).slots.toList[4]?).join = some (.builtin "list.__new__")
  call : specialIn K (.ref 100) "__call__" = some (some (.builtin "type.__call__"))
  typ : instIn K (.ref 100) (.type "type") = some true
  setat : findIn K (.ref 100) "__setattr__" = some (some (.builtin "object.__setattr__"))
  opq : nsIn K cStatics "thirdparty.any" = some none
  supLen : ks_superIn K 100 100 "__len__" = some (some (.builtin "list.__len__"))
  supInit : ks_superIn K 100 100 "__init__" = some (some (.builtin "list.__init__"))
  iter : findIn K (.ref 100) "__iter__" = some (some (.builtin "list.__iter__"))
  ga : findIn K (.ref 100) "__getattribute__" = some (some (.builtin "list.__getattribute__"))
  gh : findIn K (.ref 100) "__getattr__" = some none
  append : findIn K (.ref 100) "append" = some (some (.builtin "list.append"))
  getitem : findIn K (.ref 100) "__getitem__" = some (some (.builtin "list.__getitem__"))
  setitem : findIn K (.ref 100) "__setitem__" = some (some (.builtin "list.__setitem__"))
  push : findIn K (.ref 100) "push" = some (some (.ref 45))
  pop : findIn K (.ref 100) "pop_from" = some (some (.ref 53))
  len : findIn K (.ref 100) "__len__" = some (some (.ref 67))
  str : findIn K (.ref 100) "__str__" = some (some (.ref 74))
  count : findIn K (.ref 100) "part_count" = some (some (.ref 97))
  init : findIn K (.ref 100) "__init__" = some (some (.ref 38))
  size0 : findIn K (.ref 100) "_initial_size" = some none
  clsd : clsIn K 100 = some (cdK K 100)
  clsh : (cdK K 100).hasDict = true
  t38 : typeIn K (.ref 38) = some (.type "function")
  t45 : typeIn K (.ref 45) = some (.type "function")
  t53 : typeIn K (.ref 53) = some (.type "function")
  t67 : typeIn K (.ref 67) = some (.type "function")
  t74 : typeIn K (.ref 74) = some (.type "function")
  t97 : typeIn K (.ref 97) = some (.type "function")

/-- the frozen base: the written heap, and the built-in names -/
noncomputable def kBof (K : Frag) (b : Option Obj) : Part := fun a => if a = 0 then b else List.lookup a K
theorem kB_in {K : Frag} {b : Option Obj} (h0 : List.lookup 0 K = none) {h : Heap} (hin : (kBof K b).inH h) : K.In h := fun a o e => hin a o (by
  unfold kBof
  split
  · rename_i q; subst q; rw [h0] at e; cases e
  · exact e)
theorem kB_at {K : Frag} {b : Option Obj} {a : Addr} {o : Obj} (ha : a ≠ 0) (e : List.lookup a K = some o) : kBof K b a = some o := by
  unfold kBof
  rw [if_neg ha]; exact e

section
variable {prog : Program} {w : World} {K : Frag} {b : Option Obj} {mg mb : Str → Option Value}
noncomputable abbrev gd (prog : Program) (w : World) (K : Frag) (b : Option Obj) (mg mb : Str → Option Value) : Gd := ⟨prog, w, kBof K b, mg, mb⟩

theorem fnAt_of {a : Addr} {st : Stmt} (h0 : List.lookup 0 K = none) (F : FnK K a st) (ha : a ≠ 0 := by decide) : FnAt (gd prog w K b mg mb) a st := by
  obtain ⟨h1, h2, h3⟩ := F
  have e : fdK K a = defOf st (fdK K a).pyModule (fdK K a).code (fdK K a).doc := by
    generalize defOf st (fdK K a).pyModule (fdK K a).code (fdK K a).doc = fd at h2
    unfold fdK; rw [h2]
  refine ⟨_, _, _, _, kB_at ha (at_of h1), h2, fun h hin => ?_⟩
  rw [← e]
  exact codeRec_of (kB_in h0 hin) h3
theorem methAt_of {a : Addr} {st : Stmt} {clo : List (Str × Addr)} {cd df : Value} (h0 : List.lookup 0 K = none) (F : MethK K a st clo cd df) (ha : a ≠ 0 := by decide) : MethAt (gd prog w K b mg mb) a st clo cd df := by
  obtain ⟨h1, h2, h3⟩ := F
  exact ⟨_, _, _, _, _, kB_at ha (at_of h1), h2, fun h hin => codeRec_of (kB_in h0 hin) h3⟩

theorem ns_all {h : Heap} {a : Addr} {m : Str → Option Value} (X : K.In h) (hs : (K.lookup a).isSome = true) (N : h.Ns a m) : ∀ h', K.In h' → h'.Ns a m := fun h' X' => by
  obtain ⟨o, es, ep, ho, r⟩ := N
  have := X _ _ (at_of hs)
  rw [ho] at this
  have := Option.some.inj this
  subst this
  exact ⟨_, es, ep, X' _ _ (at_of hs), r⟩

theorem rdr_of {p : Program} {loose : List Str} {mean : ExcName → Option Value} {h : Heap} (X : K.In h) (T : Top p loose mean mg mb h) (F : Facts prog K) : Rdr (gd prog w K (h.get? builtinsNs) mg mb) K := by
  have gg : ∀ {x : Str} {r : Option Value}, findK K mainGlobals x = r → mg x = r := fun e => find_of X F.g T.g e
  have bb : ∀ {x : Str} {r : Option Value}, x ≠ "__name__" → bootBuiltins x = r → mb x = r := fun n e => (T.builtins _ n).trans e
  obtain ⟨mc, hc1, hc2⟩ := T.nolimit
  have ki : ∀ {h' : Heap}, (kBof K (h.get? builtinsNs)).inH h' → K.In h' := fun hin => kB_in F.b hin
  have hbs : ∀ h', (kBof K (h.get? builtinsNs)).inH h' → h'.Ns builtinsNs mb := fun h' hin => by
    obtain ⟨o, es, ep, ho, r⟩ := T.b
    exact ⟨o, es, ep, hin _ _ ho, r⟩
  have Bs : Base (gd prog w K (h.get? builtinsNs) mg mb) := ⟨fun h' X' => ns_all X F.g T.g h' (ki X'), hbs, fun h' X' => ⟨mc, ns_all X F.c hc1 h' (ki X'), hc2⟩⟩
  have hbk : mc sharingNotToldKey = none := find_of X F.c hc1 F.booked
  refine ⟨⟨F.top, gg F.o9, bb (by decide) (by decide +kernel), ⟨_, kB_at (b := h.get? builtinsNs) (by decide) (at_of F.cell0), F.cell1⟩, ⟨_, _, kB_at (b := h.get? builtinsNs) (by decide) (at_of F.cls0), F.cls1⟩, ?_⟩, Bs, ?_, ?_, ⟨⟨_, gg F.mark⟩, ⟨_, gg F.empty⟩⟩, ?_, ?_, gg F.x9, gg F.o8, bb (by decide) (by decide +kernel), gg F.x8, gg F.x5,
    fnAt_of F.b F.f9, fnAt_of F.b F.f13, methAt_of F.b F.m0, ⟨_, methAt_of F.b F.m1⟩, ⟨_, methAt_of F.b F.m2⟩, methAt_of F.b F.m4, methAt_of F.b F.m5, methAt_of F.b F.m8, ⟨_, kB_at (b := h.get? builtinsNs) (by decide) F.d30⟩, ⟨_, kB_at (b := h.get? builtinsNs) (by decide) F.d46⟩⟩
  · rintro c (rfl | rfl)
    · obtain ⟨h1, h2, h3, h4⟩ := F.c37
      exact ⟨_, _, _, _, kB_at (b := h.get? builtinsNs) (by decide) (at_of h1), h2, h3, h4⟩
    · obtain ⟨h1, h2, h3, h4⟩ := F.c96
      exact ⟨_, _, _, _, kB_at (b := h.get? builtinsNs) (by decide) (at_of h1), h2, h3, h4⟩
  · refine ⟨fun h' X' => ki X', F.mro, F.deq, F.selfm, ⟨_, _, _, _, (at_of F.cls0).trans (congrArg some (obj_eta F.cls1)), F.crt1, F.crt2, F.crt3, F.crt4⟩, F.call, F.typ, F.setat, F.opq, F.supLen, F.supInit, F.iter, F.ga, F.gh, F.append, F.getitem, F.setitem, F.push, F.pop, F.len, F.str, F.count, F.init, F.size0, ⟨_, F.clsd, F.clsh⟩, ?_⟩
    rintro f (rfl | rfl | rfl | rfl | rfl | rfl)
    · exact F.t38
    · exact F.t45
    · exact F.t53
    · exact F.t67
    · exact F.t74
    · exact F.t97
  · exact ⟨gg F.o1, bb (by decide) (by decide +kernel), gg F.o2, bb (by decide) (by decide +kernel), gg F.o3, bb (by decide) (by decide +kernel), gg F.o4, bb (by decide) (by decide +kernel)⟩
  · exact ⟨gg F.o5, bb (by decide) (by decide +kernel), gg F.o6, bb (by decide) (by decide +kernel), gg F.o7, bb (by decide) (by decide +kernel), fun h' X' => ⟨mc, ns_all X F.c hc1 h' (ki X'), hbk⟩⟩
  · obtain ⟨bm, ob, h1, h2, h3, h4, h5, h6⟩ := T.bmain
    have e := gg F.bm
    rw [h1] at e
    have e := Value.ref.inj (Option.some.inj e)
    have hs := F.bms
    rw [← e] at hs
    have := X _ _ (at_of hs)
    rw [h3] at this
    have := Option.some.inj this
    subst this
    exact ⟨bm, _, h1, h2, kB_at (b := h.get? builtinsNs) h2 (at_of hs), h4, h5, h6⟩
end
end Mine

namespace Mine
open PySem PySem.Calls PySem.Spec PyProof.Rows PySem.W
set_option maxRecDepth 100000
set_option linter.unusedVariables false
set_option linter.unusedSimpArgs false

/-- a frame with one local argument: the store has made a token -/
theorem env_one {M : Model} {A : Around} {E : Value → Shared → Prop} {s : Shared} {scope : Scope} {globals : Addr} {n : Str} {v : Value} {qual : Str} {func : Option Addr} {code : Value} {builtins : Addr} {Q : Env → Shared → Prop}
    (hk : scope.kind = .function) (hl : scope.names.lookup n = some .local)
    (hQ : ∀ env, env = newEnv scope s.heap.objs.size globals (cellsFrom (s.heap.objs.size + 1) scope.names []) qual func code none builtins →
      ∀ s', InCallC s env.locals (bindL env.kindOf [(n, v)] fun _ => none) env.cells (bindC env.kindOf [(n, v)] fun _ => none) s' → 0 < s'.toks → Q env s') :
    wpAny M A (newFunctionEnv scope globals [] [(n, v)] qual func code none builtins) Q E s := by
  simp only [newFunctionEnv, Option.isSome_none, Bool.false_eq_true, if_false]
  refine wpAny_bind (wpAny_alloc (wpAny_bind (wpAny_layCells _ (fun name kind cells => by cases hkc : kind == NameKind.cell <;> simp [hkc]) _ _ _ _ ?_)))
  have ok := cellsFrom_ok scope.names (s.heap.push { cls := .type "frame", data := .dict #[] }) (s.heap.objs.size + 1) [] ⟨fun _ _ hm => (nomatch hm), List.Pairwise.nil⟩ (by rw [Heap.size_push]; exact Nat.le_refl _)
  have e1 : ({ s with heap := s.heap.push { cls := .type "frame", data := .dict #[] } } : Shared).heap.objs.size = s.heap.objs.size + 1 := Heap.size_push ..
  rw [Heap.size_push] at ok
  rw [e1]
  generalize hE : newEnv scope s.heap.objs.size globals (cellsFrom (s.heap.objs.size + 1) scope.names []) qual func code none builtins = env at hQ
  have hEl : env.locals = s.heap.objs.size := by rw [← hE]; rfl
  have hEc : env.cells = cellsFrom (s.heap.objs.size + 1) scope.names [] := by rw [← hE]; rfl
  have hEk : env.kindOf n = some .local := by rw [← hE]; exact hl
  have hEs : env.scope = scope := by rw [← hE]; rfl
  have ns0 : (pushCells (s.heap.push { cls := .type "frame", data := .dict #[] }) scope.names).Ns env.locals (fun _ => none) := by
    rw [hEl]; exact (Heap.Ns.new s.heap (.type "frame")).keeps (pushCells_keeps _ _)
  show wpAny M A (forIn [(n, v)] PUnit.unit _ >>= _) Q E _
  rw [List.forIn_cons]
  refine wpAny_bind (wpAny_bind (wpAny_bind ?_))
  have goal : wpAny M A (storeName env n v) (fun _ s' => Q env s') E { s with heap := pushCells (s.heap.push { cls := .type "frame", data := .dict #[] }) scope.names } := by
    refine wpAny_storeName_local hEk ns0 (fun h' hn' hs' => ?_) (by rw [hEs, hk]; rfl)
    refine hQ env rfl _ ⟨⟨⟨h', _, rfl⟩, ?_, fun b o e => ?_, by rw [hEl]; exact Nat.le_refl _⟩, fun m c hc => ?_, by rw [hEc]; exact ok.apart, fun m c hm => ?_⟩ (Nat.succ_pos _)
    · unfold bindL; rw [if_pos hEk]; exact hn'
    · have : b ≠ env.locals := by rw [hEl]; exact Nat.ne_of_lt (Heap.lt_size e)
      exact (hs'.2 b this).trans (pushCells_keeps _ _ b o (Heap.get?_push_of_some _ e))
    · rw [hEc] at hc
      have hb := ok.empty m c (mem_of_lookup hc)
      have hne : c ≠ env.locals := by rw [hEl]; exact Nat.ne_of_gt hb.2
      unfold bindC; rw [if_pos hEk]
      exact hb.1.sameBut hs' hne
    · rw [hEc] at hm; rw [hEl]; exact (ok.empty m c hm).2
  rw [← hE] at goal
  refine wpAny_mono goal (fun _ s' hq => ?_) fun _ _ x => x
  refine wpAny_pure (wpAny_pure ?_)
  exact wpAny_pure hq

/-- the heap as the law meets it -/
theorem ok_start {G : Gd} {K₀ : Frag} {s : Shared} (hkB : G.kB = kBof (cutK K₀) (s.heap.get? builtinsNs)) (KX : K₀.In s.heap) (t1 : TabK K₀ 66 62) (t2 : TabK K₀ 73 69) (hg : s.gens = #[]) {a : Addr} {vs : List Value} (ha : s.heap.get? a = some (seqO "list" vs.toArray 0)) (n : Nat) :
    Ok G (G.kB.put a (seqO "list" vs.toArray 0)) { s with toks := n + 1 } := by
  have X := cutK_in KX
  have tab : ∀ {c P : Addr}, c ≠ P → TabK K₀ c P → (∃ ps, s.heap.IsCode c P ps ∧ s.heap.TableAt c P ps) ∧ s.heap.get? P = some { cls := .none, data := .fields #[] } := fun {c P} hne ⟨h1, h2, h3, h4, h5, h6, h7, h8, h9, h10⟩ => by
    have hc := KX _ _ (at_of h1)
    have hP := KX _ _ h10
    exact ⟨⟨#[], ⟨_, _, _, _, _, _, _, _, _, _, hc, h3, h5, h6, h7, h8, h9, hP, rfl, trivial, hne⟩, ⟨_, _, hc, h2, h3, h4⟩, hP⟩, hP⟩
  have T1 := tab (by decide) t1
  have T2 := tab (by decide) t2
  have hin : G.kB.inH s.heap := fun b o e => by
    rw [hkB] at e
    unfold kBof at e
    split at e
    · rename_i q; subst q; exact e
    · exact X b o e
  have ha62 : a ≠ 62 := fun q => by
    have := T1.2; rw [← q, ha] at this; cases this
  have ha69 : a ≠ 69 := fun q => by
    have := T2.2; rw [← q, ha] at this; cases this
  refine ⟨fun b o e => ?_, fun b o e => ?_, fun b hb => ?_, AllBare.of_eq hg, ⟨T1.1, T2.1⟩, Nat.succ_pos _⟩
  · unfold Part.put
    split
    · rename_i q
      subst q
      have := hin _ _ e
      rw [ha] at this; exact this
    · exact e
  · unfold Part.put at e
    split at e
    · rename_i q; subst q; cases e; exact ha
    · exact hin _ _ e
  · unfold Part.put
    simp only [V, List.mem_cons, List.not_mem_nil, or_false] at hb
    rcases hb with rfl | rfl
    · rw [if_neg (Ne.symm ha62), hkB]; unfold kBof; rw [cutK_eq]; rfl
    · rw [if_neg (Ne.symm ha69), hkB]; unfold kBof; rw [cutK_eq]; rfl

theorem law_call {G : Gd} {A : Around} {k : Part} {s : Shared} {n : Nat} {a : Addr} {d e : D} {Q E : Value → Shared → Prop} (B : Base G) (hf : FnAt G 159 (stmtAt 16)) (rm : Rm A 10) (ok : Ok G k { s with toks := n + 1 }) (r : Rd k (.ref a) d)
    (hex : ∀ pm cd doc A L, Ex G (cx A 9 (defOf (stmtAt 16) pm cd doc) L 159) (List.zip ["script"] (List.map Vl.dat [d])) (bodyOf (stmtAt 16)) (.ret e))
    (hq : ∀ k' s' v, Gr V k { s with toks := n + 1 } k' s' → Rd k' v e → Q v s') : wpAny G.M A (call (.ref 159) [.ref a]) Q E s := by
  obtain ⟨ob, pm, cd, doc, hk, hd, hc⟩ := hf
  have hkind : ∀ x ∈ [("script" : Str)], (defOf (stmtAt 16) pm cd doc).scope.names.lookup x = some .local ∨ ((defOf (stmtAt 16) pm cd doc).scope.names.lookup x = some .cell ∧ ∀ L, ((cellsFrom L (defOf (stmtAt 16) pm cd doc).scope.names []).lookup x).isSome = true) := fun x hx => by
    obtain rfl := List.mem_singleton.mp hx
    exact .inl rfl
  refine wpAny_call (codeAny_call_function (fd := defOf (stmtAt 16) pm cd doc) (body := bodyOf (stmtAt 16)) rm.room (ok.baseIn _ _ hk) hd rfl rfl rfl (hc _ ok.baseIn) ?_)
  have hb : bindArgs (defOf (stmtAt 16) pm cd doc) ⟨[.ref a], []⟩ = pure [(("script" : Str), .ref a)] := rfl
  rw [hb]
  refine wpAny_pure (env_one rfl rfl fun env he s₁ x ht => ?_)
  subst he
  have x' : InCallC { s with toks := n + 1 } (callEnvC (defOf (stmtAt 16) pm cd doc) s.heap.objs.size 159).locals (bindL (callEnvC (defOf (stmtAt 16) pm cd doc) s.heap.objs.size 159).kindOf (List.zip ["script"] [.ref a]) fun _ => none) (callEnvC (defOf (stmtAt 16) pm cd doc) s.heap.objs.size 159).cells
        (bindC (callEnvC (defOf (stmtAt 16) pm cd doc) s.heap.objs.size 159).kindOf (List.zip ["script"] [.ref a]) fun _ => none) s₁ := by
    obtain ⟨⟨⟨h, tk, e⟩, h1, h2, h3⟩, y1, y2, y3⟩ := x
    exact ⟨⟨⟨h, tk, e⟩, h1, h2, h3⟩, y1, y2, y3⟩
  have hcl : ∀ p ∈ cellsFrom (s.heap.objs.size + 1) (defOf (stmtAt 16) pm cd doc).scope.names [], (cellsFrom (s.heap.objs.size + 1) (defOf (stmtAt 16) pm cd doc).scope.names []).lookup p.1 = some p.2 := fun p hp => by
    have e : cellsFrom (s.heap.objs.size + 1) (defOf (stmtAt 16) pm cd doc).scope.names [] = ([("front", s.heap.objs.size + 1 + 2), ("amount", s.heap.objs.size + 1 + 1), ("drawn", s.heap.objs.size + 1)] : List (Str × Addr)) := rfl
    rw [e] at hp ⊢
    simp only [List.mem_cons, List.not_mem_nil, or_false] at hp
    rcases hp with rfl | rfl | rfl <;> rfl
  obtain ⟨st, g⟩ := start_st (n := 9) ok (rm.deeper (callEnvC (defOf (stmtAt 16) pm cd doc) s.heap.objs.size 159)) rfl rfl rfl (by decide) (.cons r .nil) hcl hkind x' ht
  refine ⟨(B.lim _ ok.baseIn).keeps x.toInCall.keep, codeAny_func ?_⟩
  refine hex pm cd doc _ _ k [] s₁ _ _ st fun k' o' s' v gs ok' r' => ?_
  refine hq k' s' v (g.comp gs.gr fun q hq => ?_) r'
  rcases List.mem_append.mp hq with hm | hm
  · rcases List.mem_append.mp hm with hm | hm
    · refine .inr (get?_ge ?_)
      rcases List.mem_cons.mp hm with rfl | hm
      · exact Nat.le_refl _
      · obtain ⟨p, hp, rfl⟩ := List.mem_map.mp hm
        exact Nat.le_of_lt (x.above p.1 p.2 hp)
    · cases hm
  · exact .inl hm
end Mine

namespace Mine
open PySem PySem.Calls PySem.Spec PyProof.Rows PySem.W
set_option maxRecDepth 100000
set_option linter.unusedVariables false
set_option linter.unusedSimpArgs false

theorem rds_ints {P : Params} {h : Heap} {k : Part} : ∀ {xs : List Int} {vs : List Value}, WellAll P h vs (ofPys (xs.map PyData.int)) → Rds k vs (xs.map D.int)
  | [], vs, W => by
    cases W
    exact .nil
  | x :: xs, vs, W => by
    have W' : WellAll P h vs (WData.int x :: ofPys (xs.map PyData.int)) := W
    cases W' with
    | cons h1 h2 =>
      cases h1 with
      | int i t => exact .cons (.int x t) (rds_ints h2)

theorem join {prog : Program} {w : World} {K₀ : Frag} {p : Program} {loose : List Str} {mean mean' : ExcName → Option Value} {mg mb : Str → Option Value} {s : Shared} {a : Addr} {xs : List Int} {c : ClaimW} {cl : Str → Option Addr} {args : List WData} {E : Value → Shared → Prop}
    (KX : K₀.In s.heap) (T : Top p loose mean mg mb s.heap) (hg : s.gens = #[]) (W : Well w.params s.heap (.ref a) (ofPy (.list (xs.map PyData.int)))) (hx : xs.length ≤ 63)
    (hr : ∀ cls, c.raises args cls = false) (hp : c.post args (.bool true) args = true) (t1 : TabK K₀ 66 62) (t2 : TabK K₀ 73 69) (F : Facts prog (cutK K₀)) :
    wpAny (model prog w) callerA (call (.ref 159) [.ref a]) (fun v s' => GoodWG c cl mean' args s (.ok (.ret v)) s') E s := by
  have R := rdr_of (w := w) (cutK_in KX) T F
  have gg : ∀ {x : Str} {r : Option Value}, findK (cutK K₀) mainGlobals x = r → mg x = r := fun e => find_of (cutK_in KX) F.g T.g e
  have W' : Well w.params s.heap (.ref a) (.list (ofPys (xs.map PyData.int))) := W
  cases W' with
  | list ha hw =>
    rename_i vs
    have ok := ok_start (G := gd prog w (cutK K₀) (s.heap.get? builtinsNs) mg mb) rfl KX t1 t2 hg ha s.toks
    refine law_call (G := gd prog w (cutK K₀) (s.heap.get? builtinsNs) mg mb) (n := s.toks) R.B (fnAt_of F.b F.f16) ⟨rfl, by decide, by decide⟩ ok (.list (Part.put_self _ _ _) (rds_ints hw))
      (law_ex R cols (fnAt_of F.b F.f11) (gg F.x3) (fnAt_of F.b F.f6) (gg F.x1) (fnAt_of F.b F.f5) (gg F.x2) (fnAt_of F.b F.f12) (gg F.x4) (fnAt_of F.b F.f14) (gg F.x6) (fnAt_of F.b F.f15) (gg F.x7) xs hx (law_all xs)) ?_
    intro k' s' v g r
    cases r with
    | bool =>
    refine ⟨.inl ⟨_, _, [], rfl, hr, ReadsW.bool true, hp, fun _ => ⟨List.nodup_nil, fun _ hm => (nomatch hm)⟩⟩, ⟨fun b o e => ?_, fun b o e => g.there b o e⟩, g.os, g.bare⟩
    by_cases hb : b ∈ V
    · have go : ∀ {c P : Addr}, (∃ ps, s.heap.IsCode c P ps ∧ s.heap.TableAt c P ps) → List.lookup P K₀ = some { cls := .none, data := .fields #[] } → (∃ ps, s'.heap.IsCode c P ps ∧ s'.heap.TableAt c P ps) → b = P → asItWas s.heap s'.heap b o := fun {c P} ⟨ps, _, h2⟩ h0 ⟨qs, _, h4⟩ hb => by
        subst hb
        have := KX _ _ h0
        rw [e] at this
        have := Option.some.inj this
        subst this
        exact .inr (.inl ⟨h2.isCodeTable, rfl, #[], qs, rfl, by simpa using h4.2⟩)
      simp only [V, List.mem_cons, List.not_mem_nil, or_false] at hb
      rcases hb with hb | hb
      · exact go ok.tab.1 t1.2.2.2.2.2.2.2.2.2 g.tab.1 hb
      · exact go ok.tab.2 t2.2.2.2.2.2.2.2.2.2 g.tab.2 hb
    · exact .inl (g.keep b o hb e)
end Mine

namespace Mine
open PySem PySem.Calls PySem.Spec PyProof.Rows PySem.W
set_option maxRecDepth 100000
set_option linter.unusedVariables false
set_option linter.unusedSimpArgs false

/-- what stands in the heap behind the top, as far as it is asked for -/
noncomputable def heapQ (P : Params) : Frag := [
  (2, { cls := Value.none, data := Data.dict #[] }),
  (3, { cls := Value.type "dict", data := Data.dict #[{ hash := PyData.keyHash P (Str.ofString "__name__"), key := Value.str (Str.ofString "__name__") 165, val := Value.str (Str.ofString "law_kl0085_01") 344 }, { hash := PyData.keyHash P (Str.ofString "__doc__"), key := Value.str (Str.ofString "__doc__") 166, val := Value.none }, { hash := PyData.keyHash P (Str.ofString "__package__"), key := Value.str (Str.ofString "__package__") 167, val := Value.none }, { hash := PyData.keyHash P (Str.ofString "__loader__"), key := Value.str (Str.ofString "__loader__") 168, val := Value.builtin "__main__.__loader__#opaque" }, { hash := PyData.keyHash P (Str.ofString "__spec__"), key := Value.str (Str.ofString "__spec__") 169, val := Value.none }, { hash := PyData.keyHash P (Str.ofString "__annotations__"), key := Value.str (Str.ofString "__annotations__") 170, val := Value.ref 6 }, { hash := PyData.keyHash P (Str.ofString "__builtins__"), key := Value.str (Str.ofString "__builtins__") 171, val := Value.ref 4 }, { hash := PyData.keyHash P (Str.ofString "__file__"), key := Value.str (Str.ofString "__file__") 173, val := Value.str (Str.ofString "/claim/cut.py") 172 }, { hash := PyData.keyHash P (Str.ofString "__cached__"), key := Value.str (Str.ofString "__cached__") 174, val := Value.none }, { hash := PyData.keyHash P (Str.ofString "_wall"), key := Value.str (Str.ofString "_wall") 193, val := Value.ref 21 }, { hash := PyData.keyHash P (Str.ofString "EMPTYSTRING"), key := Value.str (Str.ofString "EMPTYSTRING") 197, val := Value.str (Str.ofString "") 196 }, { hash := PyData.keyHash P (Str.ofString "_Accumulator"), key := Value.str (Str.ofString "_Accumulator") 292, val := Value.ref 100 }, { hash := PyData.keyHash P (Str.ofString "rgb_to_hls"), key := Value.str (Str.ofString "rgb_to_hls") 313, val := Value.ref 111 }, { hash := PyData.keyHash P (Str.ofString "hsv_to_rgb"), key := Value.str (Str.ofString "hsv_to_rgb") 327, val := Value.ref 118 }, { hash := PyData.keyHash P (Str.ofString "ELLIPSIS_MARKER"), key := Value.str (Str.ofString "ELLIPSIS_MARKER") 331, val := Value.str (Str.ofString "...") 330 }, { hash := PyData.keyHash P (Str.ofString "_ellipsis_match"), key := Value.str (Str.ofString "_ellipsis_match") 343, val := Value.ref 125 }, { hash := PyData.keyHash P (Str.ofString "_law_walk"), key := Value.str (Str.ofString "_law_walk") 364, val := Value.ref 132 }, { hash := PyData.keyHash P (Str.ofString "_law_walks"), key := Value.str (Str.ofString "_law_walks") 370, val := Value.ref 137 }, { hash := PyData.keyHash P (Str.ofString "_law_named"), key := Value.str (Str.ofString "_law_named") 376, val := Value.ref 142 }, { hash := PyData.keyHash P (Str.ofString "_law_read"), key := Value.str (Str.ofString "_law_read") 382, val := Value.ref 147 }, { hash := PyData.keyHash P (Str.ofString "_law_plain"), key := Value.str (Str.ofString "_law_plain") 393, val := Value.ref 154 }, { hash := PyData.keyHash P (Str.ofString "law"), key := Value.str (Str.ofString "law") 399, val := Value.ref 159 }] 22 }),
  (4, { cls := Value.type "module", dict := some 0 }),
  (25, { cls := Value.type "cell", data := Data.cell (some (Value.ref 100)) }),
  (30, { cls := Value.type "tuple", data := Data.seq #[Value.int 0 210] }),
  (37, { cls := Value.type "code", data := Data.fields #[Value.str (Str.ofString "__init__") 211, Value.str (Str.ofString "_Accumulator.__init__") 212, Value.str (Str.ofString "/claim/cut.py") 213, Value.int 8 0, Value.int 2 0, Value.int 0 0, Value.int 0 0, Value.int 3 0, Value.ref 32, Value.bool true, Value.int 181 0, Value.ref 33, Value.none, Value.ref 34, Value.ref 35, Value.ref 36, Value.int 217 0, Value.int 8 0, Value.str (Str.ofString "/claim/cut.py") 218] }),
  (38, { cls := Value.type "function", data := Data.func (mOf (methStmt 0) (Str.ofString "_Accumulator.__init__") [(Str.ofString "__class__", 25)] (Value.ref 30) (Value.str (Str.ofString "cpy313.email.header") 194) (Value.ref 37) (Value.none) (Value.ref 31)) }),
  (44, { cls := Value.type "code", data := Data.fields #[Value.str (Str.ofString "push") 220, Value.str (Str.ofString "_Accumulator.push") 221, Value.str (Str.ofString "/claim/cut.py") 222, Value.int 12 0, Value.int 3 0, Value.int 0 0, Value.int 0 0, Value.int 3 0, Value.ref 39, Value.bool true, Value.int 181 0, Value.ref 40, Value.none, Value.ref 41, Value.ref 42, Value.ref 43, Value.int 226 0, Value.int 12 0, Value.str (Str.ofString "/claim/cut.py") 227] }),
  (45, { cls := Value.type "function", data := Data.func (mOf (methStmt 1) (Str.ofString "_Accumulator.push") [] (Value.none) (Value.str (Str.ofString "cpy313.email.header") 194) (Value.ref 44) (Value.none) (Value.none)) }),
  (46, { cls := Value.type "tuple", data := Data.seq #[Value.int 0 229] }),
  (52, { cls := Value.type "code", data := Data.fields #[Value.str (Str.ofString "pop_from") 230, Value.str (Str.ofString "_Accumulator.pop_from") 231, Value.str (Str.ofString "/claim/cut.py") 232, Value.int 15 0, Value.int 2 0, Value.int 0 0, Value.int 0 0, Value.int 3 0, Value.ref 47, Value.bool true, Value.int 181 0, Value.ref 48, Value.none, Value.ref 49, Value.ref 50, Value.ref 51, Value.int 236 0, Value.int 15 0, Value.str (Str.ofString "/claim/cut.py") 237] }),
  (53, { cls := Value.type "function", data := Data.func (mOf (methStmt 2) (Str.ofString "_Accumulator.pop_from") [] (Value.ref 46) (Value.str (Str.ofString "cpy313.email.header") 194) (Value.ref 52) (Value.none) (Value.none)) }),
  (62, { cls := Value.none, data := Data.fields #[] }),
  (66, { cls := Value.type "code", data := Data.fields #[Value.str (Str.ofString "__len__") 246, Value.str (Str.ofString "_Accumulator.__len__") 247, Value.str (Str.ofString "/claim/cut.py") 248, Value.int 23 0, Value.int 1 0, Value.int 0 0, Value.int 0 0, Value.int 3 0, Value.ref 61, Value.bool true, Value.int 181 0, Value.ref 62, Value.none, Value.ref 63, Value.ref 64, Value.ref 65, Value.int 250 0, Value.int 23 0, Value.str (Str.ofString "/claim/cut.py") 251] }),
  (67, { cls := Value.type "function", data := Data.func (mOf (methStmt 4) (Str.ofString "_Accumulator.__len__") [] (Value.none) (Value.str (Str.ofString "cpy313.email.header") 194) (Value.ref 66) (Value.none) (Value.none)) }),
  (69, { cls := Value.none, data := Data.fields #[] }),
  (73, { cls := Value.type "code", data := Data.fields #[Value.str (Str.ofString "__str__") 253, Value.str (Str.ofString "_Accumulator.__str__") 254, Value.str (Str.ofString "/claim/cut.py") 255, Value.int 26 0, Value.int 1 0, Value.int 0 0, Value.int 0 0, Value.int 3 0, Value.ref 68, Value.bool true, Value.int 181 0, Value.ref 69, Value.none, Value.ref 70, Value.ref 71, Value.ref 72, Value.int 257 0, Value.int 26 0, Value.str (Str.ofString "/claim/cut.py") 258] }),
  (74, { cls := Value.type "function", data := Data.func (mOf (methStmt 5) (Str.ofString "_Accumulator.__str__") [] (Value.none) (Value.str (Str.ofString "cpy313.email.header") 194) (Value.ref 73) (Value.none) (Value.none)) }),
  (96, { cls := Value.type "code", data := Data.fields #[Value.str (Str.ofString "part_count") 275, Value.str (Str.ofString "_Accumulator.part_count") 276, Value.str (Str.ofString "/claim/cut.py") 277, Value.int 35 0, Value.int 1 0, Value.int 0 0, Value.int 0 0, Value.int 3 0, Value.ref 91, Value.bool true, Value.int 181 0, Value.ref 92, Value.none, Value.ref 93, Value.ref 94, Value.ref 95, Value.int 280 0, Value.int 35 0, Value.str (Str.ofString "/claim/cut.py") 281] }),
  (97, { cls := Value.type "function", data := Data.func (mOf (methStmt 8) (Str.ofString "_Accumulator.part_count") [(Str.ofString "__class__", 25)] (Value.none) (Value.str (Str.ofString "cpy313.email.header") 194) (Value.ref 96) (Value.none) (Value.ref 90)) }),
  (99, { cls := Value.type "dict", data := Data.dict #[{ hash := PyData.keyHash P (Str.ofString "__module__"), key := Value.str (Str.ofString "__module__") 205, val := Value.str (Str.ofString "cpy313.email.header") 194 }, { hash := PyData.keyHash P (Str.ofString "__firstlineno__"), key := Value.str (Str.ofString "__firstlineno__") 209, val := Value.int 6 208 }, { hash := PyData.keyHash P (Str.ofString "__init__"), key := Value.str (Str.ofString "__init__") 219, val := Value.ref 38 }, { hash := PyData.keyHash P (Str.ofString "push"), key := Value.str (Str.ofString "push") 228, val := Value.ref 45 }, { hash := PyData.keyHash P (Str.ofString "pop_from"), key := Value.str (Str.ofString "pop_from") 238, val := Value.ref 53 }, { hash := PyData.keyHash P (Str.ofString "pop"), key := Value.str (Str.ofString "pop") 245, val := Value.ref 60 }, { hash := PyData.keyHash P (Str.ofString "__len__"), key := Value.str (Str.ofString "__len__") 252, val := Value.ref 67 }, { hash := PyData.keyHash P (Str.ofString "__str__"), key := Value.str (Str.ofString "__str__") 259, val := Value.ref 74 }, { hash := PyData.keyHash P (Str.ofString "reset"), key := Value.str (Str.ofString "reset") 267, val := Value.ref 82 }, { hash := PyData.keyHash P (Str.ofString "is_onlyws"), key := Value.str (Str.ofString "is_onlyws") 274, val := Value.ref 89 }, { hash := PyData.keyHash P (Str.ofString "part_count"), key := Value.str (Str.ofString "part_count") 282, val := Value.ref 97 }, { hash := PyData.keyHash P (Str.ofString "__static_attributes__"), key := Value.str (Str.ofString "__static_attributes__") 284, val := Value.ref 98 }, { hash := PyData.keyHash P (Str.ofString "__dict__"), key := Value.str (Str.ofString "__dict__") 287, val := Value.ref 101 }, { hash := PyData.keyHash P (Str.ofString "__weakref__"), key := Value.str (Str.ofString "__weakref__") 289, val := Value.ref 102 }, { hash := PyData.keyHash P (Str.ofString "__doc__"), key := Value.str (Str.ofString "__doc__") 290, val := Value.none }] 5 }),
  (100, { cls := Value.type "type", data := Data.cls { name := Str.ofString "_Accumulator", bases := [Value.type "list"], mro := [Value.ref 100, Value.type "list", Value.type "object"], ns := 99, qualname := Str.ofString "_Accumulator" }, slots := #[some (Value.ref 22), none, some (Value.str (Str.ofString "_Accumulator") 198), some (Value.str (Str.ofString "_Accumulator") 206), some (Value.builtin "list.__new__"), some (Value.bool true)] }),
  (110, { cls := Value.type "code", data := Data.fields #[Value.str (Str.ofString "rgb_to_hls") 295, Value.str (Str.ofString "rgb_to_hls") 296, Value.str (Str.ofString "/claim/cut.py") 297, Value.int 38 0, Value.int 3 0, Value.int 0 0, Value.int 0 0, Value.int 3 0, Value.ref 105, Value.bool true, Value.int 181 0, Value.ref 106, Value.none, Value.ref 107, Value.ref 108, Value.ref 109, Value.int 311 0, Value.int 38 0, Value.str (Str.ofString "/claim/cut.py") 312] }),
  (111, { cls := Value.type "function", data := Data.func (defOf (stmtAt 5) (Value.str (Str.ofString "cpy313.colorsys") 293) (Value.ref 110) (Value.none)) }),
  (117, { cls := Value.type "code", data := Data.fields #[Value.str (Str.ofString "hsv_to_rgb") 314, Value.str (Str.ofString "hsv_to_rgb") 315, Value.str (Str.ofString "/claim/cut.py") 316, Value.int 61 0, Value.int 3 0, Value.int 0 0, Value.int 0 0, Value.int 3 0, Value.ref 112, Value.bool true, Value.int 181 0, Value.ref 113, Value.none, Value.ref 114, Value.ref 115, Value.ref 116, Value.int 325 0, Value.int 61 0, Value.str (Str.ofString "/claim/cut.py") 326] }),
  (118, { cls := Value.type "function", data := Data.func (defOf (stmtAt 6) (Value.str (Str.ofString "cpy313.colorsys") 293) (Value.ref 117) (Value.none)) }),
  (124, { cls := Value.type "code", data := Data.fields #[Value.str (Str.ofString "_ellipsis_match") 332, Value.str (Str.ofString "_ellipsis_match") 333, Value.str (Str.ofString "/claim/cut.py") 334, Value.int 84 0, Value.int 2 0, Value.int 0 0, Value.int 0 0, Value.int 3 0, Value.ref 119, Value.bool true, Value.int 181 0, Value.ref 120, Value.none, Value.ref 121, Value.ref 122, Value.ref 123, Value.int 341 0, Value.int 84 0, Value.str (Str.ofString "/claim/cut.py") 342] }),
  (125, { cls := Value.type "function", data := Data.func (defOf (stmtAt 9) (Value.str (Str.ofString "cpy313.doctest") 328) (Value.ref 124) (Value.none)) }),
  (131, { cls := Value.type "code", data := Data.fields #[Value.str (Str.ofString "_law_walk") 346, Value.str (Str.ofString "_law_walk") 347, Value.str (Str.ofString "/claim/cut.py") 348, Value.int 113 0, Value.int 1 0, Value.int 0 0, Value.int 0 0, Value.int 3 0, Value.ref 126, Value.bool true, Value.int 181 0, Value.ref 127, Value.none, Value.ref 128, Value.ref 129, Value.ref 130, Value.int 362 0, Value.int 113 0, Value.str (Str.ofString "/claim/cut.py") 363] }),
  (132, { cls := Value.type "function", data := Data.func (defOf (stmtAt 11) (Value.str (Str.ofString "law_kl0085_01") 344) (Value.ref 131) (Value.none)) }),
  (136, { cls := Value.type "code", data := Data.fields #[Value.str (Str.ofString "_law_walks") 365, Value.str (Str.ofString "_law_walks") 366, Value.str (Str.ofString "/claim/cut.py") 367, Value.int 129 0, Value.int 2 0, Value.int 0 0, Value.int 0 0, Value.int 3 0, Value.ref 133, Value.bool true, Value.int 181 0, Value.ref 134, Value.none, Value.none, Value.none, Value.ref 135, Value.int 368 0, Value.int 129 0, Value.str (Str.ofString "/claim/cut.py") 369] }),
  (137, { cls := Value.type "function", data := Data.func (defOf (stmtAt 12) (Value.str (Str.ofString "law_kl0085_01") 344) (Value.ref 136) (Value.none)) }),
  (141, { cls := Value.type "code", data := Data.fields #[Value.str (Str.ofString "_law_named") 371, Value.str (Str.ofString "_law_named") 372, Value.str (Str.ofString "/claim/cut.py") 373, Value.int 137 0, Value.int 2 0, Value.int 0 0, Value.int 0 0, Value.int 3 0, Value.ref 138, Value.bool true, Value.int 181 0, Value.ref 139, Value.none, Value.none, Value.none, Value.ref 140, Value.int 374 0, Value.int 137 0, Value.str (Str.ofString "/claim/cut.py") 375] }),
  (142, { cls := Value.type "function", data := Data.func (defOf (stmtAt 13) (Value.str (Str.ofString "law_kl0085_01") 344) (Value.ref 141) (Value.none)) }),
  (146, { cls := Value.type "code", data := Data.fields #[Value.str (Str.ofString "_law_read") 377, Value.str (Str.ofString "_law_read") 378, Value.str (Str.ofString "/claim/cut.py") 379, Value.int 140 0, Value.int 3 0, Value.int 0 0, Value.int 0 0, Value.int 3 0, Value.ref 143, Value.bool true, Value.int 181 0, Value.ref 144, Value.none, Value.none, Value.none, Value.ref 145, Value.int 380 0, Value.int 140 0, Value.str (Str.ofString "/claim/cut.py") 381] }),
  (147, { cls := Value.type "function", data := Data.func (defOf (stmtAt 14) (Value.str (Str.ofString "law_kl0085_01") 344) (Value.ref 146) (Value.none)) }),
  (153, { cls := Value.type "code", data := Data.fields #[Value.str (Str.ofString "_law_plain") 383, Value.str (Str.ofString "_law_plain") 384, Value.str (Str.ofString "/claim/cut.py") 385, Value.int 163 0, Value.int 2 0, Value.int 0 0, Value.int 0 0, Value.int 3 0, Value.ref 148, Value.bool true, Value.int 181 0, Value.ref 149, Value.none, Value.ref 150, Value.ref 151, Value.ref 152, Value.int 391 0, Value.int 163 0, Value.str (Str.ofString "/claim/cut.py") 392] }),
  (154, { cls := Value.type "function", data := Data.func (defOf (stmtAt 15) (Value.str (Str.ofString "law_kl0085_01") 344) (Value.ref 153) (Value.none)) }),
  (158, { cls := Value.type "code", data := Data.fields #[Value.str (Str.ofString "law") 394, Value.str (Str.ofString "law") 395, Value.str (Str.ofString "/claim/cut.py") 396, Value.int 171 0, Value.int 1 0, Value.int 0 0, Value.int 0 0, Value.int 3 0, Value.ref 155, Value.bool true, Value.int 181 0, Value.ref 156, Value.none, Value.none, Value.none, Value.ref 157, Value.int 397 0, Value.int 171 0, Value.str (Str.ofString "/claim/cut.py") 398] }),
  (159, { cls := Value.type "function", data := Data.func (defOf (stmtAt 16) (Value.str (Str.ofString "law_kl0085_01") 344) (Value.ref 158) (Value.none)) })]
noncomputable def atsQ : List Addr := [2, 3, 4, 25, 30, 37, 38, 44, 45, 46, 52, 53, 62, 66, 67, 69, 73, 74, 96, 97, 99, 100, 110, 111, 117, 118, 124, 125, 131, 132, 136, 137, 141, 142, 146, 147, 153, 154, 158, 159]
theorem atsQ_eq (P : Params) : atsQ = (heapQ P).map (·.1) := rfl
theorem factsQ (P : Params) : Facts PySem.Challenge.rw_kl0085_01.row.prog (cutK (heapQ P)) := by
  constructor
  all_goals first
    | kernel_rfl
    | exact ⟨by kernel_rfl, by kernel_rfl, by kernel_rfl⟩
    | exact ⟨by kernel_rfl, by kernel_rfl, by kernel_rfl, by kernel_rfl⟩
theorem tabQ1 (P : Params) : TabK (heapQ P) 66 62 := ⟨by kernel_rfl, by kernel_rfl, by kernel_rfl, by kernel_rfl, by kernel_rfl, by kernel_rfl, by kernel_rfl, by kernel_rfl, by kernel_rfl, by kernel_rfl⟩
theorem tabQ2 (P : Params) : TabK (heapQ P) 73 69 := ⟨by kernel_rfl, by kernel_rfl, by kernel_rfl, by kernel_rfl, by kernel_rfl, by kernel_rfl, by kernel_rfl, by kernel_rfl, by kernel_rfl, by kernel_rfl⟩
/-- the statements of the top that its view keeps -/
noncomputable def viewQ : Program := { PySem.Challenge.pw_kl0085_01 with main := { PySem.Challenge.pw_kl0085_01.main with body := [stmtAt 0, stmtAt 2, stmtAt 3, stmtAt 5, stmtAt 6, stmtAt 8, stmtAt 9, stmtAt 11, stmtAt 12, stmtAt 13, stmtAt 14, stmtAt 15, stmtAt 16] } }
noncomputable abbrev hookQ : Hook := kHook heapQ atsQ atsQ_eq
theorem saidQ : PySem.Challenge.rw_kl0085_01.wellSaid = true := by kernel_rfl
end Mine

open PySem PySem.W PyProof.Rows
set_option maxRecDepth 100000 in
set_option maxHeartbeats 8000000 in
theorem PySem.Challenge.cw_kl0085_01_holds : PySem.Challenge.rw_kl0085_01.Holds := by
  refine holds_law Mine.saidQ fun said => ?_
  refine holds_open (q := Mine.viewQ) (loose := ["_Accumulator"]) (Xt := fun s => xlAt Mine.viewQ [] s && recOk (RowW.records PySem.Challenge.rw_kl0085_01.row.toRowW) s) (XP := XL Mine.viewQ []) (Yf := Hook.obs Mine.hookQ) (Ya := Hook.val Mine.hookQ) (YP := Hook.says Mine.hookQ) (N := 1874) ?hl (Hook.of Mine.hookQ) (Hook.keeps Mine.hookQ) (fun s e => xl_of s (Bool.and_eq_true_iff.mp e).1) XL.keeps (by rfl) (by rfl) (by rfl) (fun s e => recFacts_of (Bool.and_eq_true_iff.mp e).2) (by rfl) said (by kernel_rfl) ⟨rfl, rfl, rfl, rfl, rfl, by decide +kernel⟩ ?hw ?hc
  case hl => intro w; kernel_rfl
  case hw => w_witness2
  case hc =>
    intro w s₀ s₁ mg mb G Y fa o pm cd doc dV kV ho hd hcd hD hmg hg args vals as hpre hlay hrd hwl hlo
    have KX := kIn_of Y
    have F := Mine.factsQ w.params
    have hfa : Value.ref fa = Value.ref 159 := Option.some.inj (hmg.symm.trans (Mine.find_of (Mine.cutK_in KX) F.g G.T.g F.x10))
    have hfa := Value.ref.inj hfa
    subst hfa
    have T := G.T
    clear ho hd hcd hD hmg Y G
    wrow_args hpre hlay hrd hwl hlo
    exact Mine.join KX T hg (by assumption) (by omega) (fun _ => rfl) (by first | rfl | wrow_post) (Mine.tabQ1 _) (Mine.tabQ2 _) F
