import PyProof.Rows.All
import Wide.All
import OpenK.AllK
import Wide.FinOn
import KE.KSuperObj
import KE.KSuper
import PyProof.ListMulAny
import PyProof.Rows.ListMulCarried
import KE.KIsNot
import PyProof.ExcBaseAll.Exception
import PyProof.InstStoreFacts
import PyProof.ExcAttrAll.Exception
import KE.KSlice
import KE.KFind
import PySem.Challenge.RW_sv0017_05
set_option Elab.async false
set_option maxRecDepth 100000
section
open PySem PySem.W PyProof.Rows
set_option maxHeartbeats 8000000
local macro_rules | `(tactic| o_head ($f:ident $k $a $e $ts)) => `(tactic| o_head (@kmHook $k $a $e [469, 490, 401, 436, 271]))
namespace Bl
open_top hd for PySem.Challenge.rw_sv0017_05
end Bl
end
section
open PySem PySem.W PyProof.Rows
set_option Elab.async false
set_option maxRecDepth 100000
namespace Bl

/-! The ledger: which objects the state holds, beside what stood at the call. -/
abbrev Cell := Obj → Prop
abbrev Led := List (Addr × Cell)

/-- what stays the same all through the law -/
structure Gd (KP : Params → Frag) where
  prog : Program
  w : World
  base : Heap
  osb : OsState
  drawnb : Drawn
  gensP : Array GenState → Prop
  gtabs : List Addr
  ltabs : List Addr
  mg : Str → Option Value
  mb : Str → Option Value
  inKF : (KP w.params).In base
  offK : ∀ a o, (KP w.params).lookup a = some o → a ∉ gtabs ∧ a ∉ ltabs
  glob : base.Ns mainGlobals mg
  bt : base.Ns builtinsNs mb
  lim : base.NoLimit
  offG : mainGlobals ∉ gtabs ∧ mainGlobals ∉ ltabs
  offB : builtinsNs ∉ gtabs ∧ builtinsNs ∉ ltabs
  offS : cStatics ∉ gtabs ∧ cStatics ∉ ltabs
  bi : ∀ x : Str, x ≠ "__name__" → mb x = bootBuiltins x
  bmain : ∃ bm ob, mg "__builtins__" = some (.ref bm) ∧ bm ≠ builtinsNs ∧ base.get? bm = some ob ∧ ob.cls = .type "module" ∧ ob.dict = some builtinsNs ∧ ob.data = .plain ∧ bm ∉ gtabs ∧ bm ∉ ltabs

abbrev Gd.K {KP : Params → Frag} (G : Gd KP) : Frag := KP G.w.params
structure Rep {KP : Params → Frag} (G : Gd KP) (σ : Led) (s : Shared) : Prop where
  keep : ∀ b o, G.base.get? b = some o → b ∉ G.gtabs → b ∉ G.ltabs → s.heap.get? b = some o
  cells : ∀ p ∈ σ, ∃ o, s.heap.get? p.1 = some o ∧ p.2 o
  nd : (σ.map (·.1)).Nodup
  new : ∀ p ∈ σ, (G.base.get? p.1 = none ∨ p.1 ∈ G.ltabs) ∧ p.1 ∉ G.gtabs
  gt : ∀ P ∈ G.gtabs, ∃ ps, s.heap.get? P = some { cls := .none, data := .fields ps } ∧ TriplesOk ps.toList
  lt : ∀ P ∈ G.ltabs, ∃ o, s.heap.get? P = some o
  os : s.os = G.osb
  drawn : s.drawn = G.drawnb
  gens : G.gensP s.gens

/-- the entry at place i -/
inductive At : Led → Nat → Addr × Cell → Prop where
  | head {p : Addr × Cell} {r : Led} : At (p :: r) 0 p
  | tail {p q : Addr × Cell} {r : Led} {i : Nat} : At r i p → At (q :: r) (i + 1) p

theorem At.get {σ : Led} {i : Nat} {p : Addr × Cell} (h : At σ i p) : σ[i]? = some p := by
  induction h with
  | head => rfl
  | tail _ ih => simpa using ih
theorem At.of {σ : Led} {i : Nat} {p : Addr × Cell} (h : σ[i]? = some p) : At σ i p := by
  induction σ generalizing i with
  | nil => simp at h
  | cons q r ih =>
    cases i with
    | zero => simp at h; subst h; exact .head
    | succ i => exact .tail (ih (by simpa using h))
theorem At.mem {σ : Led} {i : Nat} {p : Addr × Cell} (h : At σ i p) : p ∈ σ := List.mem_of_getElem? h.get
theorem At.set_ne {σ : Led} {i j : Nat} {p q : Addr × Cell} (h : At σ i p) (hne : j ≠ i) : At (σ.set j q) i p := .of (by rw [List.getElem?_set_ne hne]; exact h.get)
theorem At.set_eq {σ : Led} {i : Nat} {p q : Addr × Cell} (h : At σ i p) : At (σ.set i q) i q := .of (by rw [List.getElem?_set_self (by obtain ⟨h', _⟩ := List.getElem?_eq_some_iff.mp h.get; exact h')])
theorem At.inj {σ : Led} {i : Nat} {p q : Addr × Cell} (h : At σ i p) (h' : At σ i q) : p = q := Option.some.inj (h.get.symm.trans h'.get)

/-- one entry changed -/
inductive Upd : Led → Addr → Cell → Cell → Led → Prop where
  | head {a : Addr} {c c' : Cell} {r : Led} : Upd ((a, c) :: r) a c c' ((a, c') :: r)
  | tail {p : Addr × Cell} {a : Addr} {c c' : Cell} {r r' : Led} : Upd r a c c' r' → Upd (p :: r) a c c' (p :: r')
theorem Upd.at {σ σ' : Led} {a : Addr} {c c' : Cell} (h : Upd σ a c c' σ') : ∃ i, At σ i (a, c) ∧ σ' = σ.set i (a, c') := by
  induction h with
  | head => exact ⟨0, .head, rfl⟩
  | tail _ ih => obtain ⟨i, h1, h2⟩ := ih; exact ⟨i + 1, .tail h1, by rw [h2]; rfl⟩
theorem Upd.mem {σ σ' : Led} {a : Addr} {c c' : Cell} (h : Upd σ a c c' σ') : (a, c) ∈ σ := let ⟨_, h, _⟩ := h.at; h.mem
theorem Upd.of {σ : Led} {a : Addr} {c c' : Cell} {i : Nat} (h : At σ i (a, c)) : Upd σ a c c' (σ.set i (a, c')) := by
  generalize hp : (a, c) = p at h
  induction h with
  | head => subst hp; exact .head
  | tail _ ih => exact .tail (ih hp)

section
variable {KP : Params → Frag} {G : Gd KP} {σ : Led} {s s' : Shared}

theorem Rep.cell (R : Rep G σ s) {i : Nat} {a : Addr} {c : Cell} (h : At σ i (a, c)) : ∃ o, s.heap.get? a = some o ∧ c o := R.cells _ h.mem
theorem Rep.cellM (R : Rep G σ s) {a : Addr} {c : Cell} (h : (a, c) ∈ σ) : ∃ o, s.heap.get? a = some o ∧ c o := R.cells _ h

/-- what stood at the call, or lies in the ledger -/
def HasB (G : Gd KP) (a : Addr) (c : Cell) : Prop := ∃ o, G.base.get? a = some o ∧ c o ∧ a ∉ G.gtabs ∧ a ∉ G.ltabs
def Holds (G : Gd KP) (σ : Led) (a : Addr) (c : Cell) : Prop := (a, c) ∈ σ ∨ HasB G a c
theorem Holds.mem {a : Addr} {c : Cell} (h : (a, c) ∈ σ) : Holds G σ a c := .inl h
theorem Holds.base {a : Addr} {c : Cell} (h : HasB G a c) : Holds G σ a c := .inr h
theorem Holds.head {a : Addr} {c : Cell} : Holds G ((a, c) :: σ) a c := .inl (.head _)
theorem Holds.tail {a : Addr} {c : Cell} {p : Addr × Cell} (h : Holds G σ a c) : Holds G (p :: σ) a c := h.imp (.tail _) id
theorem Rep.cellH (R : Rep G σ s) {a : Addr} {c : Cell} (h : Holds G σ a c) : ∃ o, s.heap.get? a = some o ∧ c o :=
  h.elim (fun h => R.cells _ h) fun ⟨o, e, hc, h1, h2⟩ => ⟨o, R.keep _ _ e h1 h2, hc⟩
theorem Rep.ext (R : Rep G σ s) (hk : ∀ b o, s.heap.get? b = some o → s'.heap.get? b = some o) (hg : s'.gens = s.gens := by rfl) (ho : s'.os = s.os := by rfl) (hd' : s'.drawn = s.drawn := by rfl) : Rep G σ s' where
  keep := fun b o e h1 h2 => hk _ _ (R.keep b o e h1 h2)
  cells := fun p hp => let ⟨o, h1, h2⟩ := R.cells p hp; ⟨o, hk _ _ h1, h2⟩
  nd := R.nd
  new := R.new
  gt := fun P hP => let ⟨ps, h1, h2⟩ := R.gt P hP; ⟨ps, hk _ _ h1, h2⟩
  lt := fun P hP => let ⟨o, h1⟩ := R.lt P hP; ⟨o, hk _ _ h1⟩
  os := ho.trans R.os
  drawn := hd'.trans R.drawn
  gens := hg ▸ R.gens
theorem Rep.toks (R : Rep G σ s) {t : Nat} : Rep G σ { s with toks := t } := R.ext fun _ _ e => e

theorem Rep.none_of (R : Rep G σ s) {a : Addr} (h : s.heap.get? a = none) : G.base.get? a = none ∧ a ∉ G.gtabs ∧ a ∉ G.ltabs ∧ a ∉ σ.map (·.1) := by
  have hg : a ∉ G.gtabs := fun hm => by obtain ⟨ps, e, _⟩ := R.gt a hm; rw [h] at e; cases e
  have hl : a ∉ G.ltabs := fun hm => by obtain ⟨o, e⟩ := R.lt a hm; rw [h] at e; cases e
  refine ⟨?_, hg, hl, fun hm => ?_⟩
  · cases e : G.base.get? a with
    | none => rfl
    | some o => have := R.keep a o e hg hl; rw [h] at this; cases this
  · obtain ⟨p, hp, rfl⟩ := List.mem_map.mp hm
    obtain ⟨o, e, _⟩ := R.cells p hp
    rw [h] at e; cases e

/-- a new object -/
theorem Rep.add (R : Rep G σ s) {a : Addr} {c : Cell} {o : Obj} (hn : s.heap.get? a = none) (hk : ∀ b o, s.heap.get? b = some o → s'.heap.get? b = some o) (ha : s'.heap.get? a = some o) (hc : c o)
    (hg : s'.gens = s.gens := by rfl) (ho : s'.os = s.os := by rfl) (hd' : s'.drawn = s.drawn := by rfl) : Rep G ((a, c) :: σ) s' := by
  obtain ⟨h1, h2, h3, h4⟩ := R.none_of hn
  have R' := R.ext hk hg ho hd'
  exact { R' with
    cells := fun p hp => by
      rcases List.mem_cons.mp hp with rfl | hp
      · exact ⟨o, ha, hc⟩
      · exact R'.cells p hp
    nd := by rw [List.map_cons]; exact List.nodup_cons.mpr ⟨h4, R.nd⟩
    new := fun p hp => by
      rcases List.mem_cons.mp hp with rfl | hp
      · exact ⟨.inl h1, h2⟩
      · exact R.new p hp }
theorem nodup_inj {α : Type} {l : List α} (hn : l.Nodup) {i j : Nat} {a : α} (hi : l[i]? = some a) (hj : l[j]? = some a) : i = j := by
  obtain ⟨h1, e1⟩ := List.getElem?_eq_some_iff.mp hi
  obtain ⟨h2, e2⟩ := List.getElem?_eq_some_iff.mp hj
  have hp := List.pairwise_iff_getElem.mp hn
  rcases Nat.lt_trichotomy i j with h | h | h
  · exact absurd (e1.trans e2.symm) (hp i j h1 h2 h)
  · exact h
  · exact absurd (e2.trans e1.symm) (hp j i h2 h1 h)
theorem get?_size (h : Heap) : h.get? h.objs.size = none := by
  cases e : h.get? h.objs.size with
  | none => rfl
  | some o => exact absurd (Heap.lt_size e) (Nat.lt_irrefl _)
theorem Rep.addMany (R : Rep G σ s) {τ : Led} (hk : ∀ b o, s.heap.get? b = some o → s'.heap.get? b = some o) (hn : ∀ p ∈ τ, s.heap.get? p.1 = none) (hc : ∀ p ∈ τ, ∃ o, s'.heap.get? p.1 = some o ∧ p.2 o) (hd : (τ.map (·.1)).Nodup)
    (hg : s'.gens = s.gens := by rfl) (ho : s'.os = s.os := by rfl) (hd' : s'.drawn = s.drawn := by rfl) : Rep G (τ ++ σ) s' := by
  have R' := R.ext hk hg ho hd'
  refine { R' with cells := fun p hp => ?_, nd := ?_, new := fun p hp => ?_ }
  · rcases List.mem_append.mp hp with hp | hp
    · exact hc p hp
    · exact R'.cells p hp
  · rw [List.map_append]
    refine List.nodup_append.mpr ⟨hd, R.nd, fun a ha b hb e => ?_⟩
    subst e
    obtain ⟨p, hp, rfl⟩ := List.mem_map.mp ha
    exact (R.none_of (hn p hp)).2.2.2 hb
  · rcases List.mem_append.mp hp with hp | hp
    · obtain ⟨h1, h2, _, _⟩ := R.none_of (hn p hp)
      exact ⟨.inl h1, h2⟩
    · exact R.new p hp
theorem Rep.push (R : Rep G σ s) {c : Cell} (o : Obj) (hc : c o) {t : Nat} (hf : o.isFreed = false := by rfl) : Rep G ((s.heap.objs.size, c) :: σ) { s with heap := s.heap.push o, toks := t } :=
  R.add (get?_size _) (fun _ _ e => Heap.get?_push_of_some _ e) (Heap.get?_push_size _ hf) hc

/-- one object is changed, others may be new -/
theorem Rep.upd (R : Rep G σ s) {i : Nat} {a : Addr} {c c' : Cell} (h : At σ i (a, c)) (hx : Heap.ExtBut a s.heap s'.heap) (hc : ∃ o, s'.heap.get? a = some o ∧ c' o)
    (hg : s'.gens = s.gens := by rfl) (ho : s'.os = s.os := by rfl) (hd' : s'.drawn = s.drawn := by rfl) : Rep G (σ.set i (a, c')) s' := by
  have ha := R.new _ h.mem
  have hmap : (σ.set i (a, c')).map (·.1) = σ.map (·.1) := by
    rw [List.map_set]
    refine List.ext_getElem? fun j => ?_
    rw [List.getElem?_set]
    split
    · rename_i e; subst e
      have := h.get
      split
      · rw [List.getElem?_map, this]; rfl
      · rename_i q; rw [List.getElem?_eq_none (by omega)]
    · rfl
  refine ⟨fun b o e h1 h2 => ?_, fun p hp => ?_, by rw [hmap]; exact R.nd, fun p hp => ?_, fun P hP => ?_, fun P hP => ?_, ho.trans R.os, hd'.trans R.drawn, hg ▸ R.gens⟩
  · refine hx b o (fun q => ?_) (R.keep b o e h1 h2)
    subst q
    rcases ha.1 with q | q
    · rw [q] at e; cases e
    · exact h2 q
  · obtain ⟨j, hj⟩ := List.mem_iff_getElem?.mp hp
    rw [List.getElem?_set] at hj
    split at hj
    · split at hj
      · cases hj; exact hc
      · cases hj
    · rename_i hne
      have hp' : p ∈ σ := List.mem_of_getElem? hj
      obtain ⟨o, e, hpo⟩ := R.cells p hp'
      refine ⟨o, hx _ _ (fun q => ?_) e, hpo⟩
      -- same address at two places
      have hi : (σ.map (·.1))[i]? = some a := by rw [List.getElem?_map, h.get]; rfl
      have hj' : (σ.map (·.1))[j]? = some a := by rw [List.getElem?_map, hj]; simp [q]
      exact hne (nodup_inj R.nd hi hj')
  · have : p.1 ∈ σ.map (·.1) := hmap ▸ List.mem_map_of_mem hp
    obtain ⟨q, hq, e⟩ := List.mem_map.mp this
    rw [← e]; exact R.new q hq
  · obtain ⟨ps, e, t⟩ := R.gt P hP
    exact ⟨ps, hx _ _ (fun q => ha.2 (q ▸ hP)) e, t⟩
  · by_cases q : P = a
    · subst q; exact hc.imp fun _ x => x.1
    · obtain ⟨o, e⟩ := R.lt P hP; exact ⟨o, hx _ _ q e⟩

theorem Rep.upd' (R : Rep G σ s) {σ' : Led} {a : Addr} {c c' : Cell} (h : Upd σ a c c' σ') (hx : Heap.ExtBut a s.heap s'.heap) (hc : ∃ o, s'.heap.get? a = some o ∧ c' o)
    (hg : s'.gens = s.gens := by rfl) (ho : s'.os = s.os := by rfl) (hd' : s'.drawn = s.drawn := by rfl) : Rep G σ' s' := by
  obtain ⟨i, h1, rfl⟩ := h.at
  exact R.upd h1 hx hc hg ho hd'
/-- fewer entries, in another order -/
theorem Rep.sub (R : Rep G σ s) {τ : Led} (hs : ∀ p ∈ τ, p ∈ σ) (hn : (τ.map (·.1)).Nodup) : Rep G τ s :=
  { R with cells := fun p hp => R.cells p (hs p hp), nd := hn, new := fun p hp => R.new p (hs p hp) }
theorem Rep.tail (R : Rep G σ s) {p : Addr × Cell} {τ : Led} (e : σ = p :: τ) : Rep G τ s := by
  subst e
  exact R.sub (fun q hq => .tail _ hq) (List.nodup_cons.mp (by simpa using R.nd)).2
theorem Rep.drop1 {p : Addr × Cell} (R : Rep G (p :: σ) s) : Rep G σ s := R.tail rfl
/-- an entry forgotten, whose object turns -/
theorem Rep.del {a : Addr} {c : Cell} (R : Rep G ((a, c) :: σ) s) (hx : Heap.ExtBut a s.heap s'.heap) (ha : a ∉ G.ltabs) (hg : s'.gens = s.gens := by rfl) (ho : s'.os = s.os := by rfl) (hd' : s'.drawn = s.drawn := by rfl) : Rep G σ s' := by
  have hn := R.new _ (.head _)
  have hnd := List.nodup_cons.mp (show (a :: σ.map (·.1)).Nodup from R.nd)
  refine ⟨fun b o e h1 h2 => hx b o (fun q => ?_) (R.keep b o e h1 h2), fun p hp => ?_, hnd.2, fun p hp => R.new p (.tail _ hp), fun P hP => ?_, fun P hP => ?_, ho.trans R.os, hd'.trans R.drawn, hg ▸ R.gens⟩
  · subst q
    rcases hn.1 with q | q
    · rw [q] at e; cases e
    · exact ha q
  · obtain ⟨o, e, hp'⟩ := R.cells p (.tail _ hp)
    exact ⟨o, hx _ _ (fun q => hnd.1 (q ▸ List.mem_map_of_mem hp)) e, hp'⟩
  · obtain ⟨ps, e, t⟩ := R.gt P hP
    exact ⟨ps, hx _ _ (fun q => hn.2 (q ▸ hP)) e, t⟩
  · obtain ⟨o, e⟩ := R.lt P hP
    exact ⟨o, hx _ _ (fun q => ha (q ▸ hP)) e⟩
theorem Rep.inK (R : Rep G σ s) : G.K.In s.heap := fun a o e => R.keep a o (G.inKF a o e) (G.offK a o e).1 (G.offK a o e).2
theorem Ns_keep {h h' : Heap} {a : Addr} {m : Str → Option Value} (x : h.Ns a m) (k : ∀ o, h.get? a = some o → h'.get? a = some o) : h'.Ns a m := let ⟨o, es, ep, ho, r⟩ := x; ⟨o, es, ep, k _ ho, r⟩
theorem Rep.glob (R : Rep G σ s) : s.heap.Ns mainGlobals G.mg := Ns_keep G.glob fun o e => R.keep _ o e G.offG.1 G.offG.2
theorem Rep.bt (R : Rep G σ s) : s.heap.Ns builtinsNs G.mb := Ns_keep G.bt fun o e => R.keep _ o e G.offB.1 G.offB.2
theorem Rep.lim (R : Rep G σ s) : s.heap.NoLimit := let ⟨mc, h1, h2⟩ := G.lim; ⟨mc, Ns_keep h1 fun o e => R.keep _ o e G.offS.1 G.offS.2, h2⟩
end

/-! kinds of cells -/
def isObj (o : Obj) : Cell := fun o' => o' = o
def isLst (vs : List Value) : Cell := fun o => o.cls = .type "list" ∧ ∃ n, o.data = .seq vs.toArray n
def isTpl (vs : List Value) : Cell := fun o => o.cls = .type "tuple" ∧ ∃ n, o.data = .seq vs.toArray n
/-- a namespace: its names with what they hold, each name once -/
def look (ρ : List (Str × Option Value)) (x : Str) : Option Value := (ρ.lookup x).join
def isNs (ρ : List (Str × Option Value)) : Cell := fun o => (ρ.map (·.1)).Nodup ∧ ∃ es ep, o.data = .dict es ep ∧ StrKeys es ∧ ∀ x, nsFind es x = look ρ x

theorem lookup_of_mem {α β : Type} [BEq α] [LawfulBEq α] {l : List (α × β)} (hn : (l.map (·.1)).Nodup) {x : α} {v : β} (h : (x, v) ∈ l) : l.lookup x = some v := by
  induction l with
  | nil => cases h
  | cons p r ih =>
    obtain ⟨y, u⟩ := p
    simp only [List.map_cons, List.nodup_cons] at hn
    rcases List.mem_cons.mp h with e | h
    · cases e; simp
    · have : x ≠ y := fun q => hn.1 (List.mem_map.mpr ⟨_, h, q⟩)
      have hb : (x == y) = false := by simpa using this
      simp only [List.lookup_cons, hb]; exact ih hn.2 h

inductive Put : List (Str × Option Value) → Str → Value → List (Str × Option Value) → Prop where
  | head {x : Str} {o : Option Value} {v : Value} {r : List (Str × Option Value)} : Put ((x, o) :: r) x v ((x, some v) :: r)
  | tail {p : Str × Option Value} {x : Str} {v : Value} {r r' : List (Str × Option Value)} : Put r x v r' → Put (p :: r) x v (p :: r')
theorem Put.keys {ρ ρ' : List (Str × Option Value)} {x : Str} {v : Value} (h : Put ρ x v ρ') : ρ'.map (·.1) = ρ.map (·.1) := by
  induction h with
  | head => rfl
  | tail _ ih => simp [ih]
theorem Put.mem {ρ ρ' : List (Str × Option Value)} {x : Str} {v : Value} (h : Put ρ x v ρ') : x ∈ ρ.map (·.1) := by
  induction h with
  | head => exact List.Mem.head _
  | tail _ ih => exact List.Mem.tail _ ih
theorem Put.look {ρ ρ' : List (Str × Option Value)} {x : Str} {v : Value} (h : Put ρ x v ρ') (hn : (ρ.map (·.1)).Nodup) (y : Str) : look ρ' y = if y = x then some v else look ρ y := by
  induction h with
  | @head x o v r =>
    by_cases e : y = x
    · subst e; simp [Bl.look]
    · have hb : (y == x) = false := by simpa using e
      simp [Bl.look, List.lookup_cons, hb, e]
  | @tail p x v r r' hp ih =>
    obtain ⟨z, u⟩ := p
    simp only [List.map_cons, List.nodup_cons] at hn
    have ih := ih hn.2
    by_cases e : y = z
    · subst e
      have hne : y ≠ x := fun q => by
        subst q
        exact hn.1 hp.mem
      simp [Bl.look, hne]
    · have hb : (y == z) = false := by simpa using e
      simp only [Bl.look, List.lookup_cons, hb] at ih ⊢
      exact ih
theorem isNs.ns {h : Heap} {L : Addr} {ρ : List (Str × Option Value)} (x : ∃ o, h.get? L = some o ∧ isNs ρ o) : h.Ns L (look ρ) :=
  let ⟨o, ho, _, es, ep, a, b, c⟩ := x; ⟨o, es, ep, ho, a, b, c⟩
theorem isNs.of {h : Heap} {L : Addr} {ρ : List (Str × Option Value)} {m : Str → Option Value} (x : h.Ns L m) (hn : (ρ.map (·.1)).Nodup) (e : ∀ y, m y = look ρ y) : ∃ o, h.get? L = some o ∧ isNs ρ o :=
  let ⟨o, es, ep, ho, a, b, c⟩ := x; ⟨o, ho, hn, es, ep, a, b, fun y => (c y).trans (e y)⟩
theorem isLst.lst {h : Heap} {l : Addr} {vs : List Value} (x : ∃ o, h.get? l = some o ∧ isLst vs o) : h.IsList l vs.toArray := let ⟨o, ho, a, b⟩ := x; ⟨o, ho, a, b⟩
theorem isLst.of {h : Heap} {l : Addr} {vs : List Value} (x : h.IsList l vs.toArray) : ∃ o, h.get? l = some o ∧ isLst vs o := let ⟨o, ho, a, b⟩ := x; ⟨o, ho, a, b⟩
theorem isTpl.tpl {h : Heap} {l : Addr} {vs : List Value} (x : ∃ o, h.get? l = some o ∧ isTpl vs o) : h.IsTuple l vs.toArray := let ⟨o, ho, a, b⟩ := x; ⟨o, ho, a, b⟩
theorem isTpl.of {h : Heap} {l : Addr} {vs : List Value} (x : h.IsTuple l vs.toArray) : ∃ o, h.get? l = some o ∧ isTpl vs o := let ⟨o, ho, a, b⟩ := x; ⟨o, ho, a, b⟩

/-- an environment of a def's call -/
structure EnvIs (env : Env) (sc : Scope) (L : Addr) (cl : List (Str × Addr)) (cd : Value) : Prop where
  scope : env.scope = sc
  locals : env.locals = L
  globals : env.globals = mainGlobals
  builtins : env.builtins = builtinsNs
  cells : env.cells = cl
  code : env.code = cd
  kind : env.scope.kind = .function

section
variable {KP : Params → Frag} {G : Gd KP} {A : Around} {E : Value → Shared → Prop} {σ : Led} {s : Shared} {env : Env} {L f : Addr} {ρ : List (Str × Option Value)} {sc : Scope} {cl : List (Str × Addr)} {cd : Value}
theorem EnvIs.kindOf (he : EnvIs env sc L cl cd) {x : Str} {k : NameKind} (h : sc.names.lookup x = some k) : env.kindOf x = some k := by
  show env.scope.names.lookup x = some k
  rw [he.scope]; exact h
theorem EnvIs.plain (he : EnvIs env sc L cl cd) : (env.scope.kind == .class || (env.scope.kind == .module && env.locals != env.globals)) = false := by rw [he.kind]; rfl

theorem w_local {x : Str} {pos : Pos} {v : Value} {Q : Value → Shared → Prop} (R : Rep G σ s) (he : EnvIs env sc L cl cd) (hm : Holds G σ L (isNs ρ)) (hv : (x, some v) ∈ ρ) (h : Q v s)
    (hl : sc.names.lookup x = some .local := by kernel_rfl) (hd : (x == ("__debug__" : Str)) = false := by kernel_rfl) :
    wpAny (model G.prog G.w) A (eval (.Name x pos) env) Q E s := by
  have hns := isNs.ns (R.cellH hm)
  obtain ⟨o, ho, hn, _⟩ := R.cellH hm
  exact wpAny_Name (wpAny_loadName_local he.kind (he.kindOf hl) (he.locals ▸ hns) (by simp [look, lookup_of_mem hn hv]) h) hd
/-- a namespace of which one name is told -/
def hasName (x : Str) (v : Value) : Cell := fun o => ∃ es ep, o.data = .dict es ep ∧ StrKeys es ∧ nsFind es x = some v
theorem w_localB {x : Str} {pos : Pos} {v : Value} {Q : Value → Shared → Prop} (R : Rep G σ s) (he : EnvIs env sc L cl cd) (hm : Holds G σ L (hasName x v)) (h : Q v s)
    (hl : sc.names.lookup x = some .local := by kernel_rfl) (hd : (x == ("__debug__" : Str)) = false := by kernel_rfl) :
    wpAny (model G.prog G.w) A (eval (.Name x pos) env) Q E s := by
  obtain ⟨o, ho, es, ep, h1, h2, h3⟩ := R.cellH hm
  exact wpAny_Name (wpAny_loadName_local he.kind (he.kindOf hl) (he.locals ▸ (⟨o, es, ep, ho, h1, h2, fun _ => rfl⟩ : s.heap.Ns L (nsFind es))) h3 h) hd
theorem w_loadLocal {x : Str} {v : Value} {Q : Value → Shared → Prop} (R : Rep G σ s) (he : EnvIs env sc L cl cd) (hm : Holds G σ L (isNs ρ)) (hv : (x, some v) ∈ ρ) (h : Q v s)
    (hl : sc.names.lookup x = some .local := by kernel_rfl) :
    wpAny (model G.prog G.w) A (loadName env x) Q E s := by
  have hns := isNs.ns (R.cellH hm)
  obtain ⟨o, ho, hn, _⟩ := R.cellH hm
  exact wpAny_loadName_local he.kind (he.kindOf hl) (he.locals ▸ hns) (by simp [look, lookup_of_mem hn hv]) h
theorem w_store {x : Str} {v : Value} {ρ' : List (Str × Option Value)} {σ' : Led} {Q : Unit → Shared → Prop} (R : Rep G σ s) (he : EnvIs env sc L cl cd) (hu : Upd σ L (isNs ρ) (isNs ρ') σ') (hp : Put ρ x v ρ')
    (h : ∀ s', Rep G σ' s' → Q () s') (hl : sc.names.lookup x = some .local := by kernel_rfl) :
    wpAny (model G.prog G.w) A (storeName env x v) Q E s := by
  have hns := isNs.ns (R.cellM hu.mem)
  obtain ⟨o, ho, hn, _⟩ := R.cellM hu.mem
  rw [← he.locals] at hns
  refine wpAny_storeName_local (he.kindOf hl) hns (fun h' hn' hs' => h _ (R.upd' hu (he.locals ▸ hs'.extBut) (isNs.of (he.locals ▸ hn') (hp.keys ▸ hn) fun y => (hp.look hn y).symm))) he.plain
theorem w_int {i : Int} {k : Nat} {pos : Pos} {Q : Value → Shared → Prop} (R : Rep G σ s) (h : ∀ t s', Rep G σ s' → Q (.int i t) s') : wpAny (model G.prog G.w) A (eval (.Constant (.int i) k pos) env) Q E s :=
  wpAny_Constant_int (h _ _ R.toks)
theorem w_str {x : Str} {k : Nat} {pos : Pos} {Q : Value → Shared → Prop} (R : Rep G σ s) (h : ∀ t s', Rep G σ s' → Q (.str x t) s') : wpAny (model G.prog G.w) A (eval (.Constant (.str x) k pos) env) Q E s :=
  wpAny_Constant_str (h _ _ R.toks)
end
end Bl

end
section
open PySem PySem.W PyProof.Rows PySem.Calls PySem.Builtin PySem.Builtin.ObjectAttr PySem.Builtin.Getset_descriptor
set_option Elab.async false
set_option maxRecDepth 100000
namespace Bl
section
variable {KP : Params → Frag} {G : Gd KP} {A : Around} {E : Value → Shared → Prop} {σ : Led} {s : Shared} {env : Env}

/-! names -/
variable {L f : Addr} {sc : Scope} {cl : List (Str × Addr)} {cd : Value}
theorem w_global {x : Str} {pos : Pos} {v : Value} {Q : Value → Shared → Prop} (R : Rep G σ s) (he : EnvIs env sc L cl cd) (e : nsIn G.K mainGlobals x = some (some v)) (h : Q v s)
    (hl : sc.names.lookup x = some .globalImplicit := by kernel_rfl) (hd : (x == ("__debug__" : Str)) = false := by kernel_rfl) :
    wpAny (model G.prog G.w) A (eval (.Name x pos) env) Q E s :=
  Calls.Name_function_global he.kind (he.kindOf hl) (Calls.loadGlobal_global (he.globals ▸ R.glob) (mg_of R.inK R.glob e) h) hd
theorem w_builtin {x : Str} {pos : Pos} {v : Value} {Q : Value → Shared → Prop} (R : Rep G σ s) (he : EnvIs env sc L cl cd) (hv : bootBuiltins x = some v) (h : Q v s) (e : nsIn G.K mainGlobals x = some none := by kernel_rfl)
    (hl : sc.names.lookup x = some .globalImplicit := by kernel_rfl) (hn : x ≠ "__name__" := by decide +kernel) (hd : (x == ("__debug__" : Str)) = false := by kernel_rfl) :
    wpAny (model G.prog G.w) A (eval (.Name x pos) env) Q E s :=
  Calls.Name_function_global he.kind (he.kindOf hl) (Calls.loadGlobal_builtin (he.globals ▸ R.glob) (mg_none_of R.inK R.glob e) (he.builtins ▸ R.bt) ((G.bi x hn).trans hv) h) hd

/-! instances whose class has slots alone -/
def inst (C dx : Addr) (sl : Array (Option Value)) : Obj := { cls := .ref C, dict := some dx, data := .plain, slots := sl }
def isAny : Cell := fun o => o = emptyDict
/-- what a slot holds: nothing, a value, an int under some token -/
inductive SV where
  | no | va (v : Value) | nu (n : Int) | st (x : Str)
def SV.ok : SV → Option Value → Prop
  | .no, o => o = none
  | .va v, o => o = some v
  | .nu n, o => ∃ t, o = some (.int n t)
  | .st x, o => ∃ t, o = some (.str x t)
def obj (C dx : Addr) (svs : List SV) : Cell := fun o => ∃ sl : Array (Option Value), o = inst C dx sl ∧ ∀ i, (svs.getD i .no).ok (sl[i]?).join
theorem instAt {h : Heap} {x C dx : Addr} {sl : Array (Option Value)} {od : Obj} (e : h.get? x = some (inst C dx sl)) (d : h.get? dx = some od) : InstAt h x (inst C dx sl) C (some od) := ⟨e, rfl, rfl, d⟩

theorem findObj_data0 {K : Frag} {C : Addr} {name : Str} {a g : Value} {od : Option Obj} (hc : (clsIn K C).isSome = true) (ha : findIn K (.ref C) name = some (some a)) (hg : specialIn K a "__get__" = some (some g)) (ht : takesIn K a = some true) : findObj K C od name = some (.bind g a) := by
  obtain ⟨cd, hc⟩ := Option.isSome_iff_exists.mp hc
  unfold findObj
  rw [hc, Option.bind_some, ha, Option.bind_some]
  simp [hg, ht]
def slotOk (K : Frag) (C : Addr) (name : Str) (i : Nat) : Bool :=
  plainGet K C name && isClsIn K C && (match findIn K (.ref C) name with
    | some (some (.ref p)) => specialIn K (.ref p) "__get__" == some (some (.builtin "member_descriptor.__get__")) && takesIn K (.ref p) == some true && slotIn K p C == some i
    | _ => false)
theorem w_getslot0 {x C dx : Addr} {sl : Array (Option Value)} {name : Str} {v : Value} {i : Nat} {expr : Bool} {Q : Value → Shared → Prop} (R : Rep G σ s) (ho : s.heap.get? x = some (inst C dx sl)) (hdx : Holds G σ dx isAny)
    (h : ∀ s', Rep G σ s' → Q v s') (hs : slotOk G.K C name i = true) (hv : (sl[i]?).join = some v) (hh : handedIn v = true) :
    wpAny (model G.prog G.w) A (getAttr (.ref x) name expr) Q E s := by
  obtain ⟨od', hod, rfl⟩ := R.cellH hdx
  unfold slotOk at hs
  simp only [Bool.and_eq_true] at hs
  obtain ⟨⟨h1, h2⟩, h3⟩ := hs
  split at h3
  · rename_i p ha
    simp only [Bool.and_eq_true, beq_iff_eq] at h3
    refine get_bind R.inK (instAt ho hod) (plainGet_of h1).1 (findObj_data0 h2 ha h3.1.1 h3.1.2) (plainGet_of h1).2 (wpAny_call (slot_get (s := { s with toks := s.toks + 1 }) R.inK (instAt ho hod) h3.2 hv ?_))
    exact handed_on hh (h _ R.toks)
  · cases h3

theorem w_slotI {x C dx : Addr} {svs : List SV} {name : Str} {n : Int} (i : Nat) {expr : Bool} {Q : Value → Shared → Prop} (R : Rep G σ s) (hm : Holds G σ x (obj C dx svs)) (hdx : Holds G σ dx isAny)
    (hv : svs.getD i .no = .nu n) (hs : slotOk G.K C name i = true) (h : ∀ t s', Rep G σ s' → Q (.int n t) s') : wpAny (model G.prog G.w) A (getAttr (.ref x) name expr) Q E s := by
  obtain ⟨o, ho, sl, rfl, hok⟩ := R.cellH hm
  obtain ⟨t, ht⟩ : ∃ t, (sl[i]?).join = some (.int n t) := by have := hok i; rw [hv] at this; exact this
  exact w_getslot0 R ho hdx (h t) hs ht rfl
theorem w_slotS {x C dx : Addr} {svs : List SV} {name y : Str} (i : Nat) {expr : Bool} {Q : Value → Shared → Prop} (R : Rep G σ s) (hm : Holds G σ x (obj C dx svs)) (hdx : Holds G σ dx isAny)
    (hv : svs.getD i .no = .st y) (hs : slotOk G.K C name i = true) (h : ∀ t s', Rep G σ s' → Q (.str y t) s') : wpAny (model G.prog G.w) A (getAttr (.ref x) name expr) Q E s := by
  obtain ⟨o, ho, sl, rfl, hok⟩ := R.cellH hm
  obtain ⟨t, ht⟩ : ∃ t, (sl[i]?).join = some (.str y t) := by have := hok i; rw [hv] at this; exact this
  exact w_getslot0 R ho hdx (h t) hs ht rfl
theorem w_slotV {x C dx : Addr} {svs : List SV} {name : Str} {v : Value} (i : Nat) {expr : Bool} {Q : Value → Shared → Prop} (R : Rep G σ s) (hm : Holds G σ x (obj C dx svs)) (hdx : Holds G σ dx isAny)
    (hv : svs.getD i .no = .va v) (hs : slotOk G.K C name i = true) (h : ∀ s', Rep G σ s' → Q v s') (hh : handedIn v = true := by rfl) : wpAny (model G.prog G.w) A (getAttr (.ref x) name expr) Q E s := by
  obtain ⟨o, ho, sl, rfl, hok⟩ := R.cellH hm
  have ht : (sl[i]?).join = some v := by have := hok i; rw [hv] at this; exact this
  exact w_getslot0 R ho hdx h hs ht hh

def setOk (K : Frag) (C : Addr) (name : Str) (i : Nat) : Bool :=
  (findIn K (.ref C) "__setattr__" == some (some (.builtin "object.__setattr__"))) && plainOver K C && (match takerIn K C name with
    | some (some (.ref p)) => typeIn K (.ref p) == some (.type "member_descriptor") && slotIn K p C == some i && decide (i < 1000)
    | _ => false)
theorem slot_setR {R : Result → Shared → Prop} {x C dx p i : Nat} {svs : List SV} {v : Value} {w : SV} {j : Nat} (R₀ : Rep G σ s) (hm : At σ j (x, obj C dx svs)) (hdx : Holds G σ dx isAny) (hp : slotIn G.K p C = some i) (hi : i < 1000)
    (hw : w.ok (some v)) (hlen : i < svs.length)
    (h : ∀ s', Rep G (σ.set j (x, obj C dx (svs.set i w))) s' → R (.ok (.ret .none)) s') :
    codeAny (model G.prog G.w) A (.call (.builtin "member_descriptor.__set__") ⟨[.ref p, .ref x, v], []⟩) R s := by
  have X := R₀.inK
  obtain ⟨o, hxo, sl, rfl, hok⟩ := R₀.cell hm
  obtain ⟨od', hod, rfl⟩ := R₀.cellH hdx
  have I := instAt hxo hod
  have hok' : ∀ k, ((svs.set i w).getD k .no).ok (((sl ++ Array.replicate (i + 1 - sl.size) none).setIfInBounds i (some v))[k]?).join := by
    intro k
    have hk := hok k
    rw [List.getD_eq_getElem?_getD] at hk ⊢
    rw [List.getElem?_set, Array.getElem?_setIfInBounds]
    by_cases e : i = k
    · subst e
      have : i < (sl ++ Array.replicate (i + 1 - sl.size) (none : Option Value)).size := by rw [Array.size_append, Array.size_replicate]; omega
      simp only [hlen, this, if_true]
      exact hw
    · rw [if_neg e, if_neg e, Array.getElem?_append]
      split
      · exact hk
      · rename_i hge
        have h1 : sl[k]? = none := Array.getElem?_eq_none (by omega)
        rw [h1] at hk
        have h2 : ((Array.replicate (i + 1 - sl.size) (none : Option Value))[k - sl.size]?).join = none := by
          rw [Array.getElem?_replicate]; split <;> rfl
        rw [h2]; exact hk
  obtain ⟨n, tn, owner, behind, tb, d, sl', cd, ho, hc, hmr, hb, rfl⟩ := slot_of X hp
  have fin := h { s with heap := s.heap.update x (fun o => { o with slots := (o.slots ++ Array.replicate (cd.slotNames.length - 1 - behind.toNat + 1 - o.slots.size) none).setIfInBounds (cd.slotNames.length - 1 - behind.toNat) (some v) }) }
    (R₀.upd hm (Heap.SameBut.update ..).extBut ⟨_, Heap.get?_update_self (fun o : Obj => { o with slots := (o.slots ++ Array.replicate (cd.slotNames.length - 1 - behind.toNat + 1 - o.slots.size) none).setIfInBounds (cd.slotNames.length - 1 - behind.toNat) (some v) }) hxo rfl, _, rfl, hok'⟩)
  obtain ⟨hh, g, dr, t, os⟩ := s
  have L0 := I.type (M := model G.prog G.w)
  have L1 := looks_mroIn (M := model G.prog G.w) X hmr
  have L2 : Looks (model G.prog G.w) hh (Slots.slotNamesOf (.ref C)) cd.slotNames := (looks_clsIn X hc).andThen .now
  have hx := I.at_
  dsimp only at ho hx L0 L1
  have f0 := looks_field (M := model G.prog G.w) ho 0 (v := .str n tn) rfl
  have f1 := looks_field (M := model G.prog G.w) ho 1 (v := owner) rfl
  have f3 := looks_field (M := model G.prog G.w) ho 3 (v := .builtin "proto.slot#set") rfl
  have f4 := looks_field (M := model G.prog G.w) ho 4 (v := .int behind tb) rfl
  refine codeAny_call_builtin KF.slot_mset.plain KF.entry_mset (KF.slot_mset.check _ _ _ _ _ _ _ _ ⟨_, ho, rfl⟩ (KF.args_mset _ _ _) ?_)
  unfold Builtin.«member_descriptor.__set__» descrSet descrStoreThrough descrCheckInstance descrNameAndClass isInstance
  have f5 : Looks (model G.prog G.w) hh (descrItself (.ref p)) [.ref p] := ((Looks.ld (part := none) ho).andThen .now).andThen (Looks.of_pure (by kernel_rfl))
  repeat lk
  refine ⟨Code.quiet_builtin _ (by decide +kernel), codeAny_builtin KF.entry_slotset ?_⟩
  unfold Builtin.«proto.slot#set» Slots.target
  repeat lk
  rw [if_neg hb]
  refine wpAny_pure (wpAny_bind ?_)
  unfold setSlotAt
  dsimp only
  rw [if_neg (by rw [sizeLine_eq]; omega)]
  exact wpAny_updatePart hx (wpAny_pure fin)
theorem w_setslot {x C dx : Addr} {svs svs' : List SV} {name : Str} {v : Value} {w : SV} (i : Nat) {σ' : Led} {Q : Unit → Shared → Prop} (R : Rep G σ s) (hu : Upd σ x (obj C dx svs) (obj C dx svs') σ') (hdx : Holds G σ dx isAny)
    (hs : setOk G.K C name i = true) (e : svs.set i w = svs') (hw : w.ok (some v)) (hlen : i < svs.length) (h : ∀ s', Rep G σ' s' → Q () s')
    : wpAny (model G.prog G.w) A (setAttr (.ref x) name v) Q E s := by
  obtain ⟨od', hod, rfl⟩ := R.cellH hdx
  obtain ⟨j, hm, rfl⟩ := hu.at
  obtain ⟨o, ho, sl, rfl, hok⟩ := R.cell hm
  unfold setOk at hs
  simp only [Bool.and_eq_true, beq_iff_eq] at hs
  obtain ⟨⟨h1, h2⟩, h3⟩ := hs
  split at h3
  · rename_i p ha
    simp only [Bool.and_eq_true, beq_iff_eq, decide_eq_true_eq] at h3
    subst e
    exact set_plain R.inK (instAt ho hod) h1 (osa_descr (s := { s with toks := s.toks + 1 }) KF.slot_mset R.inK (instAt ho hod) h2 ha h3.1.1 (slot_setR (s := { s with toks := s.toks + 1 }) R.toks hm hdx h3.1.2 h3.2 hw hlen fun s' R' => h s' R'))
  · cases h3

def propOk (K : Frag) (C : Addr) (name : Str) (fget : Addr) : Bool :=
  plainGet K C name && isClsIn K C && (match findIn K (.ref C) name with
    | some (some (.ref p)) => specialIn K (.ref p) "__get__" == some (some (.builtin "property.__get__")) && takesIn K (.ref p) == some true && (match recIn K p "property" with | some (.ref f :: _) => f == fget | _ => false)
    | _ => false)
theorem w_getprop {x C dx fget : Addr} {svs : List SV} {name : Str} {expr : Bool} {Q : Value → Shared → Prop} (R : Rep G σ s) (hm : Holds G σ x (obj C dx svs)) (hdx : Holds G σ dx isAny)
    (h : ∀ s' R', Rep G σ s' → R' = (fun (r : Result) s'' => match r with | .ok (.ret v) => handedIn v = true ∧ Q v s'' | _ => False) → codeAny (model G.prog G.w) A.in1 (.call (.ref fget) ⟨[.ref x], []⟩) R' s')
    (hs : propOk G.K C name fget = true := by kernel_rfl) : wpAny (model G.prog G.w) A (getAttr (.ref x) name expr) Q E s := by
  obtain ⟨od', hod, rfl⟩ := R.cellH hdx
  obtain ⟨o, ho, sl, rfl, hok⟩ := R.cellH hm
  unfold propOk at hs
  simp only [Bool.and_eq_true] at hs
  obtain ⟨⟨h1, h2⟩, h3⟩ := hs
  split at h3
  · rename_i p ha
    simp only [Bool.and_eq_true, beq_iff_eq] at h3
    obtain ⟨⟨h4, h5⟩, h6⟩ := h3
    split at h6
    · rename_i f rest hr
      rw [beq_iff_eq] at h6; subst h6
      refine get_bind R.inK (instAt ho hod) (plainGet_of h1).1 (findObj_data0 h2 ha h4 h5) (plainGet_of h1).2 (wpAny_call (prop_get (s := { s with toks := s.toks + 1 }) R.inK hr (codeAny_mono (h _ _ R.toks rfl) fun r s' z => ?_)))
      rcases r with e | (v | _ | _ | _) <;> first | exact z.elim | exact handed_on z.1 z.2
    · cases h6
  · cases h3
def propSetOk (K : Frag) (C : Addr) (name : Str) (fset : Addr) : Bool :=
  (findIn K (.ref C) "__setattr__" == some (some (.builtin "object.__setattr__"))) && plainOver K C && (match takerIn K C name with
    | some (some (.ref p)) => typeIn K (.ref p) == some (.type "property") && (match recIn K p "property" with | some (_ :: .ref f :: _) => f == fset | _ => false)
    | _ => false)
theorem w_setprop {x C dx fset : Addr} {svs : List SV} {name : Str} {v : Value} {Q : Unit → Shared → Prop} (R : Rep G σ s) (hm : Holds G σ x (obj C dx svs)) (hdx : Holds G σ dx isAny)
    (h : ∀ s' R', Rep G σ s' → R' = (fun (r : Result) s'' => match r with | .ok (.ret _) => Q () s'' | _ => False) → codeAny (model G.prog G.w) A.in1.in1 (.call (.ref fset) ⟨[.ref x, v], []⟩) R' s')
    (hs : propSetOk G.K C name fset = true := by kernel_rfl) : wpAny (model G.prog G.w) A (setAttr (.ref x) name v) Q E s := by
  obtain ⟨od', hod, rfl⟩ := R.cellH hdx
  obtain ⟨o, ho, sl, rfl, hok⟩ := R.cellH hm
  unfold propSetOk at hs
  simp only [Bool.and_eq_true, beq_iff_eq] at hs
  obtain ⟨⟨h1, h2⟩, h3⟩ := hs
  split at h3
  · rename_i p ha
    simp only [Bool.and_eq_true, beq_iff_eq] at h3
    obtain ⟨h4, h6⟩ := h3
    split at h6
    · rename_i a f rest hr
      rw [beq_iff_eq] at h6; subst h6
      refine set_plain R.inK (instAt ho hod) h1 (osa_descr (s := { s with toks := s.toks + 1 }) KF.slot_pset R.inK (instAt ho hod) h2 ha h4 (prop_set (s := { s with toks := s.toks + 1 }) R.inK hr (codeAny_mono (h _ _ R.toks rfl) fun r s' z => ?_)))
      rcases r with e | (v | _ | _ | _) <;> first | exact z.elim | exact z
    · cases h6
  · cases h3

def methOk (K : Frag) (C : Addr) (name : Str) (f : Addr) : Bool :=
  plainGet K C name && findIn K (.ref C) name == some (some (.ref f)) && typeIn K (.ref f) == some (.type "function")
theorem w_method {x C dx f : Addr} {svs : List SV} {name : Str} {pl : Sem Bool} {Q : Value × List Value → Shared → Prop} (R : Rep G σ s) (hm : Holds G σ x (obj C dx svs)) (hdx : Holds G σ dx isAny) (h : Q (.ref f, [.ref x]) s)
    (hs : methOk G.K C name f = true := by kernel_rfl) : wpAny (model G.prog G.w) A (getMethod (.ref x) name pl) Q E s := by
  obtain ⟨od', hod, rfl⟩ := R.cellH hdx
  obtain ⟨o, ho, sl, rfl, hok⟩ := R.cellH hm
  unfold methOk at hs
  simp only [Bool.and_eq_true, beq_iff_eq] at hs
  exact method_fn R.inK (instAt ho hod) (plainGet_of hs.1.1).1 (plainGet_of hs.1.1).2 hs.1.2 hs.2 rfl h
end
end Bl

end
section
open PySem PySem.W PyProof.Rows PySem.Calls
set_option Elab.async false
set_option maxRecDepth 100000
namespace Bl
section
variable {KP : Params → Frag} {G : Gd KP} {A : Around} {E : Value → Shared → Prop} {σ : Led} {s : Shared} {env : Env}

def nodupB : List Str → Bool
  | [] => true
  | x :: r => !r.contains x && nodupB r
theorem nodup_of_B : ∀ {l : List Str}, nodupB l = true → l.Nodup
  | [], _ => .nil
  | x :: r, h => by
    simp only [nodupB, Bool.and_eq_true, Bool.not_eq_true', List.contains_eq_mem, decide_eq_false_iff_not] at h
    exact List.nodup_cons.mpr ⟨h.1, nodup_of_B h.2⟩
def isCell (v : Option Value) : Cell := fun o => o.data = .cell v

/-- the frame that a call lays: the parameters, then the names without a value yet -/
def frame0 (sc : Scope) (binds : List (Str × Value)) : List (Str × Option Value) :=
  ((binds.filter fun p => sc.names.lookup p.1 == some .local).map fun p => (p.1, some p.2)) ++ ((sc.names.filter fun p => p.2 == .local && !(binds.any fun b => b.1 == p.1)).map fun p => (p.1, none))
/-- the cells that a call lays -/
def cellNames (sc : Scope) : List Str := (cellsFrom 0 sc.names []).map (·.1)

theorem bindL_look {k : Str → Option NameKind} : ∀ {binds : List (Str × Value)}, (binds.map (·.1)).Nodup → ∀ (m : Str → Option Value) (y : Str),
    bindL k binds m y = match binds.lookup y with | some v => if k y = some .local then some v else m y | none => m y
  | [], _, m, y => rfl
  | (n, v) :: r, hn, m, y => by
    simp only [List.map_cons, List.nodup_cons] at hn
    rw [bindL, bindL_look hn.2, List.lookup_cons]
    by_cases e : y = n
    · subst e
      have hnone : r.lookup y = none := by
        cases q : r.lookup y with
        | none => rfl
        | some u => exact absurd (List.mem_map_of_mem (f := (·.1)) (mem_of_lookup q)) hn.1
      simp only [hnone, beq_self_eq_true]
      by_cases hk : k y = some .local
      · rw [if_pos hk, if_pos hk]; simp
      · rw [if_neg hk, if_neg hk]
    · have hb : (y == n) = false := by simpa using e
      simp only [hb]
      cases r.lookup y with
      | none => dsimp only; split <;> simp [e]
      | some u => dsimp only; split <;> first | rfl | (split <;> simp [e])
theorem bindC_look {k : Str → Option NameKind} : ∀ {binds : List (Str × Value)}, (binds.map (·.1)).Nodup → ∀ (m : Str → Option Value) (y : Str),
    bindC k binds m y = match binds.lookup y with | some v => if k y = some .local then m y else some v | none => m y
  | [], _, m, y => rfl
  | (n, v) :: r, hn, m, y => by
    simp only [List.map_cons, List.nodup_cons] at hn
    rw [bindC, bindC_look hn.2, List.lookup_cons]
    by_cases e : y = n
    · subst e
      have hnone : r.lookup y = none := by
        cases q : r.lookup y with
        | none => rfl
        | some u => exact absurd (List.mem_map_of_mem (f := (·.1)) (mem_of_lookup q)) hn.1
      simp only [hnone, beq_self_eq_true]
      by_cases hk : k y = some .local
      · rw [if_pos hk, if_pos hk]
      · rw [if_neg hk, if_neg hk]; simp
    · have hb : (y == n) = false := by simpa using e
      simp only [hb]
      cases r.lookup y with
      | none => dsimp only; split <;> simp [e]
      | some u => dsimp only; split <;> first | rfl | (split <;> simp [e])
theorem look_frame0 {sc : Scope} {binds : List (Str × Value)} (hn : (binds.map (·.1)).Nodup) (y : Str) :
    (match binds.lookup y with | some v => if sc.names.lookup y = some .local then some v else none | none => none) = look (frame0 sc binds) y := by
  unfold look frame0
  rw [List.lookup_append]
  have h0 : ∀ l : List (Str × NameKind), (l.map fun p => (p.1, (none : Option Value))).lookup y = none ∨ (l.map fun p => (p.1, (none : Option Value))).lookup y = some none := by
    intro l
    induction l with
    | nil => exact .inl rfl
    | cons p r ih =>
      simp only [List.map_cons, List.lookup_cons]
      split
      · exact .inr rfl
      · exact ih
  have h2 : ((binds.filter fun p => sc.names.lookup p.1 == some .local).map (fun p => (p.1, some p.2))).lookup y = match binds.lookup y with | some v => if sc.names.lookup y = some .local then some (some v) else none | none => none := by
    clear h0
    induction binds with
    | nil => rfl
    | cons p r ih =>
      obtain ⟨z, u⟩ := p
      simp only [List.map_cons, List.nodup_cons] at hn
      have ih := ih hn.2
      rw [List.lookup_cons]
      by_cases e : y = z
      · subst e
        have hnone : r.lookup y = none := by
          cases q : r.lookup y with
          | none => rfl
          | some u => exact absurd (List.mem_map_of_mem (f := (·.1)) (mem_of_lookup q)) hn.1
        simp only [beq_self_eq_true]
        by_cases hk : sc.names.lookup y = some .local
        · rw [if_pos hk, List.filter_cons_of_pos (by simpa using hk)]; simp
        · rw [if_neg hk, List.filter_cons_of_neg (by simpa using hk), ih, hnone]
      · have hb : (y == z) = false := by simpa using e
        simp only [hb]
        by_cases hk : sc.names.lookup z = some .local
        · rw [List.filter_cons_of_pos (by simpa using hk), List.map_cons, List.lookup_cons]; simp only [hb]; exact ih
        · rw [List.filter_cons_of_neg (by simpa using hk)]; exact ih
  rw [h2]
  cases e : binds.lookup y with
  | some v =>
    dsimp only
    by_cases hk : sc.names.lookup y = some .local
    · rw [if_pos hk, if_pos hk]; rfl
    · rw [if_neg hk, if_neg hk]
      rcases h0 (sc.names.filter fun p => p.2 == .local && !(binds.any fun b => b.1 == p.1)) with q | q <;> rw [q] <;> rfl
  | none =>
    dsimp only
    rcases h0 (sc.names.filter fun p => p.2 == .local && !(binds.any fun b => b.1 == p.1)) with q | q <;> rw [q] <;> rfl

/-- what the frame of an exception's way out asks -/
def leaveE (G : Gd KP) (A : Around) (env : Env) (R : Result → Shared → Prop) : Value → Shared → Prop := fun e s' =>
  wpAny (model G.prog G.w) (A.deeper env) (leaving env e) (fun _ s'' => R (.error e) s'') (fun e' s'' => R (.error e') s'') s'

/-- a def without cells of its own (it may hold another's) -/
theorem c_def {f : Addr} {o : Obj} {fd : FuncData} {body : List Stmt} {args : Args} {binds : List (Str × Value)} {R : Result → Shared → Prop} (R₀ : Rep G σ s) (ho : s.heap.get? f = some o) (hd : o.data = .func fd)
    (hcd : s.heap.CodeRec fd.code fd.qualname) (hbody : fd.body = .stmts body) (hbind : BindsTo s fd args binds)
    (hroom : A.depth < recursionLimit)
    (h : ∀ L s', Rep G ((L, isNs (frame0 fd.scope binds)) :: σ) s' → s.heap.objs.size = L →
      wpAny (model G.prog G.w) (A.deeper (callEnv fd L f)) (execs body (callEnv fd L f)) (fun fl s'' => R (.ok (.ret (match fl with | .ret v => v | _ => .none))) s'') (leaveE G A (callEnv fd L f) R) s')
    (hcell : (fd.scope.names.all fun p => p.2 != .cell) = true) (hloc : ((binds.map (·.1)).all fun x => fd.scope.names.lookup x == some .local) = true) (hnb : (binds.map (·.1)).Nodup)
    (hnd : ((frame0 fd.scope binds).map (·.1)).Nodup)
    (hco : fd.scope.isCoroutine = false) (hgen : fd.scope.isGenerator = false) (hk : fd.scope.kind = .function) :
    codeAny (model G.prog G.w) A (.call (.ref f) args) R s := by
  have hl : ∀ x ∈ binds, fd.scope.names.lookup x.1 = some .local := fun x hx => by have := List.all_eq_true.mp hloc x.1 (List.mem_map_of_mem hx); simpa using this
  refine codeAny_call_def hroom ho hd R₀.lim hcd hbody hbind (fun x hx => by have := List.all_eq_true.mp hcell x hx; simpa using this) hl (fun h₀ hns hk' => ?_) hco hgen hk
  have key : ∀ y, binds.reverse.lookup y = look (frame0 fd.scope binds) y := fun y => by
    rw [← look_frame0 hnb]
    have hr : (binds.reverse.map (·.1)).Nodup := by rw [List.map_reverse]; exact (List.pairwise_reverse.mpr (hnb.imp fun h => Ne.symm h))
    cases e : binds.lookup y with
    | some v =>
      dsimp only
      rw [if_pos (hl _ (mem_of_lookup e)), lookup_of_mem hr (List.mem_reverse.mpr (mem_of_lookup e))]
    | none =>
      cases e' : binds.reverse.lookup y with
      | none => rfl
      | some v =>
        have := lookup_of_mem hnb (List.mem_reverse.mp (mem_of_lookup e'))
        rw [e] at this; cases this
  obtain ⟨o', h1, h2⟩ := isNs.of hns hnd key
  exact h _ _ (R₀.add (get?_size _) hk' h1 h2) rfl

/-- a def of the text, without cells -/
theorem c_K {f : Addr} {oc : Value} {od : Option Addr} {sl : Array (Option Value)} {name qual : Str} {params : Arguments} {body : List Stmt} {sc : Scope} {gl bi : Addr} {cl : List (Str × Addr)} {df kdf doc pm cd ct : Value} {an : Option Addr}
    {args : Args} {R : Result → Shared → Prop} (binds : List (Str × Value)) (ρ : List (Str × Option Value)) (R₀ : Rep G σ s) (hroom : A.depth < recursionLimit)
    (ho : G.K.lookup f = some ⟨oc, od, .func { name := name, qualname := qual, params := params, body := .stmts body, scope := sc, globals := gl, closure := cl, defaults := df, kwdefaults := kdf, doc := doc, pyModule := pm, annotations := an, code := cd, closureTuple := ct, builtins := bi }, sl⟩)
    (hbind : G.K.In s.heap → BindsTo s { name := name, qualname := qual, params := params, body := .stmts body, scope := sc, globals := gl, closure := cl, defaults := df, kwdefaults := kdf, doc := doc, pyModule := pm, annotations := an, code := cd, closureTuple := ct, builtins := bi } args binds)
    (h : ∀ L s' env, Rep G ((L, isNs ρ) :: σ) s' → EnvIs env sc L cl cd → env.frame = some L → env.func = some f ∧ env.qual = qual ++ ".<locals>." →
      wpAny (model G.prog G.w) (A.deeper env) (execs body env) (fun fl s'' => R (.ok (.ret (match fl with | .ret v => v | _ => .none))) s'') (leaveE G A env R) s')
    (hρ : frame0 sc binds = ρ := by rfl) (hgl : gl = mainGlobals := by rfl) (hbi : bi = builtinsNs := by rfl) (hcd : codeIn G.K cd qual = true := by kernel_rfl)
    (hcell : (sc.names.all fun p => p.2 != .cell) = true := by kernel_rfl) (hloc : ((binds.map (·.1)).all fun x => sc.names.lookup x == some .local) = true := by kernel_rfl)
    (hnb : nodupB (binds.map (·.1)) = true := by kernel_rfl) (hnd : nodupB (ρ.map (·.1)) = true := by kernel_rfl)
    (hco : sc.isCoroutine = false := by kernel_rfl) (hgen : sc.isGenerator = false := by kernel_rfl) (hk : sc.kind = .function := by kernel_rfl) :
    codeAny (model G.prog G.w) A (.call (.ref f) args) R s := by
  subst hρ
  exact c_def R₀ (R₀.inK _ _ ho) rfl (codeRec_of R₀.inK hcd) rfl (hbind R₀.inK) hroom (fun L s' R' e => h L s' _ R' ⟨rfl, rfl, hgl, hbi, rfl, rfl, hk⟩ rfl ⟨rfl, rfl⟩) hcell hloc (nodup_of_B hnb) (nodup_of_B hnd) hco hgen hk

/-- a def of the text whose comprehensions read its names: these lie in cells -/
theorem c_KC {f : Addr} {oc : Value} {od : Option Addr} {sl : Array (Option Value)} {name qual : Str} {params : Arguments} {body : List Stmt} {sc : Scope} {gl bi : Addr} {df kdf doc pm cd ct : Value} {an : Option Addr}
    {args : Args} {R : Result → Shared → Prop} (binds : List (Str × Value)) (ρ : List (Str × Option Value)) (cn : List Str) (R₀ : Rep G σ s) (hroom : A.depth < recursionLimit)
    (ho : G.K.lookup f = some ⟨oc, od, .func { name := name, qualname := qual, params := params, body := .stmts body, scope := sc, globals := gl, closure := [], defaults := df, kwdefaults := kdf, doc := doc, pyModule := pm, annotations := an, code := cd, closureTuple := ct, builtins := bi }, sl⟩)
    (hbind : G.K.In s.heap → BindsTo s { name := name, qualname := qual, params := params, body := .stmts body, scope := sc, globals := gl, closure := [], defaults := df, kwdefaults := kdf, doc := doc, pyModule := pm, annotations := an, code := cd, closureTuple := ct, builtins := bi } args binds)
    (h : ∀ L s' env cl, cl.map (·.1) = cn → Rep G ((L, isNs ρ) :: ((cl.map fun p => (p.2, isCell (binds.lookup p.1))) ++ σ)) s' → EnvIs env sc L cl cd → env.frame = some L → env.func = some f ∧ env.qual = qual ++ ".<locals>." →
      wpAny (model G.prog G.w) (A.deeper env) (execs body env) (fun fl s'' => R (.ok (.ret (match fl with | .ret v => v | _ => .none))) s'') (leaveE G A env R) s')
    (hρ : frame0 sc binds = ρ := by rfl) (hcn : cellNames sc = cn := by rfl) (hgl : gl = mainGlobals := by rfl) (hbi : bi = builtinsNs := by rfl) (hcd : codeIn G.K cd qual = true := by kernel_rfl)
    (hloc : ((binds.map (·.1)).all fun x => sc.names.lookup x == some .local || (sc.names.lookup x == some .cell && cn.contains x)) = true := by kernel_rfl)
    (hcl : (cn.all fun x => sc.names.lookup x == some .cell) = true := by kernel_rfl)
    (hnb : nodupB (binds.map (·.1)) = true := by kernel_rfl) (hnd : nodupB (ρ.map (·.1)) = true := by kernel_rfl) (hnc : nodupB cn = true := by kernel_rfl)
    (hco : sc.isCoroutine = false := by kernel_rfl) (hgen : sc.isGenerator = false := by kernel_rfl) (hk : sc.kind = .function := by kernel_rfl) :
    codeAny (model G.prog G.w) A (.call (.ref f) args) R s := by
  subst hρ
  refine codeAny_call_function hroom (R₀.inK _ _ ho) rfl hco hgen rfl (codeRec_of R₀.inK hcd) (hbind R₀.inK _ _ _ _ ?_)
  have names : ∀ (l : List (Str × NameKind)) (n m : Nat) (a b : List (Str × Addr)), a.map (·.1) = b.map (·.1) → (cellsFrom n l a).map (·.1) = (cellsFrom m l b).map (·.1) := by
    intro l
    induction l with
    | nil => intro n m a b e; exact e
    | cons p r ih =>
      intro n m a b e
      obtain ⟨x, k⟩ := p
      unfold cellsFrom
      split
      · exact ih _ _ _ _ (by simp [e])
      · exact ih _ _ _ _ e
  have hcn' : ∀ n, (cellsFrom n sc.names []).map (·.1) = cn := fun n => (names _ _ 0 _ _ rfl).trans hcn
  have hkind : ∀ x ∈ binds, sc.names.lookup x.1 = some .local ∨ (sc.names.lookup x.1 = some .cell ∧ ((cellsFrom (s.heap.objs.size + 1) sc.names []).lookup x.1).isSome = true) := fun x hx => by
    have := List.all_eq_true.mp hloc x.1 (List.mem_map_of_mem hx)
    simp only [Bool.or_eq_true, beq_iff_eq, Bool.and_eq_true, List.contains_eq_mem, decide_eq_true_eq] at this
    refine this.imp id fun q => ⟨q.1, ?_⟩
    have hm := q.2
    rw [← hcn' (s.heap.objs.size + 1)] at hm
    obtain ⟨p, hp, e⟩ := List.mem_map.mp hm
    have hnd' : ((cellsFrom (s.heap.objs.size + 1) sc.names []).map (·.1)).Nodup := by rw [hcn']; exact nodup_of_B hnc
    rw [← e, lookup_of_mem hnd' hp]; rfl
  refine wpAny_newFunctionEnv_cells hk hkind fun env he s' x => ?_
  subst he
  refine ⟨R₀.lim.keeps x.toInCall.keep, codeAny_func ?_⟩
  have hbn := nodup_of_B hnb
  obtain ⟨h₁, tk, hs, hkeep⟩ := x.done
  have hns := x.toInCall.ns
  obtain ⟨oN, hN1, hN2⟩ := isNs.of (ρ := frame0 sc binds) hns (nodup_of_B hnd) (fun y => by
    rw [bindL_look hbn]
    rw [← look_frame0 hbn]
    rfl)
  have hnew : ∀ a, s.heap.objs.size ≤ a → s.heap.get? a = none := fun a ha => by
    cases e : s.heap.get? a with
    | none => rfl
    | some o => exact absurd (Heap.lt_size e) (Nat.not_lt.mpr ha)
  refine h s.heap.objs.size s' _ (cellsFrom (s.heap.objs.size + 1) sc.names []) (hcn' _) ?_ ⟨rfl, rfl, hgl, hbi, rfl, rfl, hk⟩ rfl ⟨rfl, rfl⟩
  have hLc : ∀ n c, (n, c) ∈ cellsFrom (s.heap.objs.size + 1) sc.names [] → s.heap.objs.size < c := fun n c hm => x.above n c hm
  have := R₀.addMany (s' := s') (τ := (s.heap.objs.size, isNs (frame0 sc binds)) :: ((cellsFrom (s.heap.objs.size + 1) sc.names []).map fun p => (p.2, isCell (binds.lookup p.1)))) x.toInCall.keep ?_ ?_ ?_ (by rw [hs]) (by rw [hs]) (by rw [hs])
  · exact this
  · intro p hp
    rcases List.mem_cons.mp hp with rfl | hp
    · exact hnew _ (Nat.le_refl _)
    · obtain ⟨q, hq, rfl⟩ := List.mem_map.mp hp
      exact hnew _ (Nat.le_of_lt (hLc q.1 q.2 hq))
  · intro p hp
    rcases List.mem_cons.mp hp with rfl | hp
    · exact ⟨oN, hN1, hN2⟩
    · obtain ⟨⟨n, c⟩, hq, rfl⟩ := List.mem_map.mp hp
      have hnd' : ((cellsFrom (s.heap.objs.size + 1) sc.names []).map (·.1)).Nodup := by rw [hcn']; exact nodup_of_B hnc
      obtain ⟨o, h1, h2⟩ := x.cell n c (lookup_of_mem hnd' hq)
      refine ⟨o, h1, ?_⟩
      show o.data = .cell (binds.lookup n)
      rw [h2, bindC_look hbn]
      have hkc : sc.names.lookup n = some .cell := by
        have := List.all_eq_true.mp hcl n (by rw [← hcn' (s.heap.objs.size + 1)]; exact List.mem_map_of_mem (f := (·.1)) hq)
        simpa using this
      congr 1
      have hkl : ¬ (callEnvC { name := name, qualname := qual, params := params, body := .stmts body, scope := sc, globals := gl, closure := [], defaults := df, kwdefaults := kdf, doc := doc, pyModule := pm, annotations := an, code := cd, closureTuple := ct, builtins := bi } s.heap.objs.size f).kindOf n = some .local := by
        show ¬ sc.names.lookup n = some .local
        rw [hkc]; decide
      cases binds.lookup n with
      | none => rfl
      | some v => exact if_neg hkl
  · rw [List.map_cons, List.map_map]
    refine List.nodup_cons.mpr ⟨fun hm => ?_, ?_⟩
    · obtain ⟨q, hq, e⟩ := List.mem_map.mp hm
      exact absurd (hLc q.1 q.2 hq) (by rw [show q.2 = s.heap.objs.size from e]; exact Nat.lt_irrefl _)
    · exact List.pairwise_map.mpr (x.apart.imp fun h => h)
theorem cells1 {P : List (Str × Addr) → Prop} {a : Str} (h : ∀ x, P [(a, x)]) : ∀ cl : List (Str × Addr), cl.map (·.1) = [a] → P cl := fun cl e => by
  match cl, e with
  | [(_, x)], e => simp only [List.map_cons, List.map_nil, List.cons.injEq, and_true] at e; subst e; exact h x
theorem cells2 {P : List (Str × Addr) → Prop} {a b : Str} (h : ∀ x y, P [(a, x), (b, y)]) : ∀ cl : List (Str × Addr), cl.map (·.1) = [a, b] → P cl := fun cl e => by
  match cl, e with
  | [(_, x), (_, y)], e => simp only [List.map_cons, List.map_nil, List.cons.injEq, and_true] at e; obtain ⟨rfl, rfl⟩ := e; exact h x y
theorem cells3 {P : List (Str × Addr) → Prop} {a b c : Str} (h : ∀ x y z, P [(a, x), (b, y), (c, z)]) : ∀ cl : List (Str × Addr), cl.map (·.1) = [a, b, c] → P cl := fun cl e => by
  match cl, e with
  | [(_, x), (_, y), (_, z)], e => simp only [List.map_cons, List.map_nil, List.cons.injEq, and_true] at e; obtain ⟨rfl, rfl, rfl⟩ := e; exact h x y z
end
end Bl

end
section
open PySem PySem.W PyProof.Rows PySem.Calls
set_option Elab.async false
set_option maxRecDepth 100000
namespace Bl
section
variable {KP : Params → Frag} {G : Gd KP} {A : Around} {E : Value → Shared → Prop} {σ : Led} {s : Shared} {env : Env} {L f : Addr} {ρ : List (Str × Option Value)} {sc : Scope} {cl : List (Str × Addr)} {cd : Value}

/-! ints -/
variable {a b : Int} {t u : Tok} {Q : Value → Shared → Prop}
theorem w_add (R : Rep G σ s) (h : ∀ t s', Rep G σ s' → Q (.int (a + b) t) s') : wpAny (model G.prog G.w) A (binaryOp .Add (.int a t) (.int b u)) Q E s := add_int (h _ _ R.toks)
theorem w_sub (R : Rep G σ s) (h : ∀ t s', Rep G σ s' → Q (.int (a - b) t) s') : wpAny (model G.prog G.w) A (binaryOp .Sub (.int a t) (.int b u)) Q E s := sub_int (h _ _ R.toks)
theorem w_mod (R : Rep G σ s) (hb : b ≠ 0) (h : ∀ t s', Rep G σ s' → Q (.int (a.fmod b) t) s') : wpAny (model G.prog G.w) A (binaryOp .Mod (.int a t) (.int b u)) Q E s := mod_int hb (h _ _ R.toks)
theorem w_iadd (R : Rep G σ s) (h : ∀ t s', Rep G σ s' → Q (.int (a + b) t) s') : wpAny (model G.prog G.w) A (inplaceOp .Add (.int a t) (.int b u)) Q E s := iadd_int (h _ _ R.toks)
theorem w_isub (R : Rep G σ s) (h : ∀ t s', Rep G σ s' → Q (.int (a - b) t) s') : wpAny (model G.prog G.w) A (inplaceOp .Sub (.int a t) (.int b u)) Q E s := PyProof.Rows.isub_int (h _ _ R.toks)

theorem ite_dec {p : Prop} [Decidable p] {X Y : Prop} (h1 : p → X) (h2 : ¬ p → Y) : if decide p = true then X else Y := by
  by_cases h : p
  · rw [if_pos (decide_eq_true h)]; exact h1 h
  · rw [if_neg (by simpa using h)]; exact h2 h
theorem ite_beq {x y : Int} {X Y : Prop} (h1 : x = y → X) (h2 : x ≠ y → Y) : if (x == y) = true then X else Y := by
  by_cases h : x = y
  · rw [if_pos (by simpa using h)]; exact h1 h
  · rw [if_neg (by simpa using h)]; exact h2 h

/-! a call's arguments -/
theorem w_Call {func : Expr} {args : List Expr} {kws : List Keyword} {pos : Pos}
    (h : wpAny (model G.prog G.w) A (eval func env) (fun fv s₁ => wpAny (model G.prog G.w) A (callWith pos fv [] (backTo pos (starEach args env)) (backToKw pos (keywordEach kws env))) Q E s₁) E s)
    (he : eval (.Call func args kws pos) env = (do callWith pos (← eval func env) [] (backTo pos (starEach args env)) (backToKw pos (keywordEach kws env))) := by with_unfolding_all rfl) :
    wpAny (model G.prog G.w) A (eval (.Call func args kws pos) env) Q E s := by
  rw [he]
  exact wpAny_bind h
theorem w_cwK {fv : Value} {first : List Value} {e : Expr} {rest : List Expr} {kws : List Keyword} {pos : Pos} (hk : keepIn G.K fv = true)
    (h : wpAny (model G.prog G.w) A (spliced (backTo pos (starEach (e :: rest) env))) (fun vs s₁ => wpAny (model G.prog G.w) A (evalAll ((backToKw pos (keywordEach kws env)).map (·.2)))
      (fun ks s₂ => (∃ σ', Rep G σ' s₂) ∧ wpAny (model G.prog G.w) A (call fv (first ++ vs) (((backToKw pos (keywordEach kws env)).filterMap (·.1)).zip ks)) Q E s₂) E s₁) E s)
    (hall : (backToKw pos (keywordEach kws env)).all (·.1.isSome) = true := by rfl)
    (hplain : ((backTo pos (starEach (e :: rest) env)).any (·.1) || (backToKw pos (keywordEach kws env)).any (·.1.isNone)) = false := by rfl) (he : starEach (e :: rest) env = (false, eval e env) :: starEach rest env := by rfl) :
    wpAny (model G.prog G.w) A (callWith pos fv first (backTo pos (starEach (e :: rest) env)) (backToKw pos (keywordEach kws env))) Q E s :=
  callWith_of hplain (P := fun h => G.K.In h) (keeps_K hk) (evalArgs_kw2 hall (wpAny_mono h (fun _ _ h₁ => wpAny_mono h₁ (fun _ _ h₂ => ⟨let ⟨_, R⟩ := h₂.1; R.inK, h₂.2⟩) fun _ _ x => x) fun _ _ x => x) he)
theorem w_cwK0 {fv : Value} {first : List Value} {kws : List Keyword} {pos : Pos} (hk : keepIn G.K fv = true)
    (h : wpAny (model G.prog G.w) A (evalAll ((backToKw pos (keywordEach kws env)).map (·.2)))
      (fun ks s₂ => (∃ σ', Rep G σ' s₂) ∧ wpAny (model G.prog G.w) A (call fv (first ++ []) (((backToKw pos (keywordEach kws env)).filterMap (·.1)).zip ks)) Q E s₂) E s)
    (hall : (backToKw pos (keywordEach kws env)).all (·.1.isSome) = true := by rfl)
    (hplain : ((backTo pos (starEach [] env)).any (·.1) || (backToKw pos (keywordEach kws env)).any (·.1.isNone)) = false := by rfl) :
    wpAny (model G.prog G.w) A (callWith pos fv first (backTo pos (starEach [] env)) (backToKw pos (keywordEach kws env))) Q E s :=
  callWith_of hplain (P := fun h => G.K.In h) (keeps_K hk) (evalArgs_kw2_nil hall (wpAny_mono h (fun _ _ h₂ => ⟨let ⟨_, R⟩ := h₂.1; R.inK, h₂.2⟩) fun _ _ x => x))
theorem w_cwB {id : String} {first : List Value} {e : Expr} {rest : List Expr} {pos : Pos}
    (h : wpAny (model G.prog G.w) A (spliced (backTo pos (starEach (e :: rest) env))) (fun vs s₁ => wpAny (model G.prog G.w) A (call (.builtin id) (first ++ vs)) Q E s₁) E s)
    (hplain : (backTo pos (starEach (e :: rest) env)).any (·.1) = false := by rfl) (he : starEach (e :: rest) env = (false, eval e env) :: starEach rest env := by rfl) :
    wpAny (model G.prog G.w) A (callWith pos (.builtin id) first (backTo pos (starEach (e :: rest) env)) (backToKw pos (keywordEach [] env))) Q E s := by
  show wpAny _ _ (callWith pos (.builtin id) first (backTo pos (starEach (e :: rest) env)) []) _ _ _
  refine callWith_builtin hplain ?_
  rw [he] at h ⊢
  exact evalArgs_plain h
theorem w_cwB0 {id : String} {first : List Value} {pos : Pos}
    (h : wpAny (model G.prog G.w) A (call (.builtin id) (first ++ [])) Q E s) : wpAny (model G.prog G.w) A (callWith pos (.builtin id) first (backTo pos (starEach [] env)) (backToKw pos (keywordEach [] env))) Q E s := by
  show wpAny _ _ (callWith pos (.builtin id) first [] []) _ _ _
  exact callWith_builtin rfl (evalArgs_nil3 h)
theorem w_cwT {T : String} {first : List Value} {e : Expr} {rest : List Expr} {pos : Pos}
    (h : wpAny (model G.prog G.w) A (spliced (backTo pos (starEach (e :: rest) env))) (fun vs s₁ => wpAny (model G.prog G.w) A (call (.type T) (first ++ vs)) Q E s₁) E s)
    (hplain : (backTo pos (starEach (e :: rest) env)).any (·.1) = false := by rfl) (he : starEach (e :: rest) env = (false, eval e env) :: starEach rest env := by rfl) :
    wpAny (model G.prog G.w) A (callWith pos (.type T) first (backTo pos (starEach (e :: rest) env)) (backToKw pos (keywordEach [] env))) Q E s := by
  show wpAny _ _ (callWith pos (.type T) first (backTo pos (starEach (e :: rest) env)) []) _ _ _
  refine PyProof.Rows.callWith_type hplain ?_
  rw [he] at h ⊢
  exact evalArgs_plain h
theorem w_cwT0 {T : String} {first : List Value} {pos : Pos}
    (h : wpAny (model G.prog G.w) A (call (.type T) (first ++ [])) Q E s) : wpAny (model G.prog G.w) A (callWith pos (.type T) first (backTo pos (starEach [] env)) (backToKw pos (keywordEach [] env))) Q E s := by
  show wpAny _ _ (callWith pos (.type T) first [] []) _ _ _
  exact PyProof.Rows.callWith_type rfl (evalArgs_nil3 h)
/-- a function that lies in the ledger -/
theorem w_cwF {g : Addr} {first : List Value} {e : Expr} {rest : List Expr} {pos : Pos}
    (h : wpAny (model G.prog G.w) A (spliced (backTo pos (starEach (e :: rest) env))) (fun vs s₁ => (∃ o fd, s₁.heap.get? g = some o ∧ o.data = .func fd) ∧ wpAny (model G.prog G.w) A (call (.ref g) (first ++ vs)) Q E s₁) E s)
    (hplain : (backTo pos (starEach (e :: rest) env)).any (·.1) = false := by rfl) (he : starEach (e :: rest) env = (false, eval e env) :: starEach rest env := by rfl) :
    wpAny (model G.prog G.w) A (callWith pos (.ref g) first (backTo pos (starEach (e :: rest) env)) (backToKw pos (keywordEach [] env))) Q E s := by
  show wpAny _ _ (callWith pos (.ref g) first (backTo pos (starEach (e :: rest) env)) []) _ _ _
  refine callWith_of (P := fun h => ∃ o fd, h.get? g = some o ∧ o.data = .func fd) (by rw [hplain]; rfl) (fun h ⟨o, fd, h1, h2⟩ => ⟨.frame, .inl rfl, (Looks.ld (part := none) h1).andThen (by rw [h2]; exact .now)⟩) ?_
  rw [he] at h ⊢
  exact evalArgs_plain h
theorem w_cwF0 {g : Addr} {first : List Value} {pos : Pos}
    (h : (∃ o fd, s.heap.get? g = some o ∧ o.data = .func fd) ∧ wpAny (model G.prog G.w) A (call (.ref g) (first ++ [])) Q E s) :
    wpAny (model G.prog G.w) A (callWith pos (.ref g) first (backTo pos (starEach [] env)) (backToKw pos (keywordEach [] env))) Q E s := by
  show wpAny _ _ (callWith pos (.ref g) first [] []) _ _ _
  exact callWith_of (P := fun h => ∃ o fd, h.get? g = some o ∧ o.data = .func fd) rfl (fun h ⟨o, fd, h1, h2⟩ => ⟨.frame, .inl rfl, (Looks.ld (part := none) h1).andThen (by rw [h2]; exact .now)⟩) (evalArgs_nil3 h)

theorem w_callMethod {o : Expr} {name : Str} {args : List Expr} {kws : List Keyword} {apos pos : Pos} {pl : Sem Bool}
    (h : wpAny (model G.prog G.w) A (eval o env) (fun ov s₁ => wpAny (model G.prog G.w) A (getMethod ov name pl) (fun fx s₂ => wpAny (model G.prog G.w) A (callWith pos fx.1 fx.2 (backTo pos (starEach args env)) (backToKw pos (keywordEach kws env))) Q E s₂) E s₁) E s)
    (he : eval (.Call (.Attribute o name apos) args kws pos) env = (do
      let ov ← eval o env
      standAt apos.atName
      let (f, first) ← holding [ov] (getMethod ov name pl)
      callWith pos f first (backTo pos (starEach args env)) (backToKw pos (keywordEach kws env))) := by with_unfolding_all rfl) :
    wpAny (model G.prog G.w) A (eval (.Call (.Attribute o name apos) args kws pos) env) Q E s := methodCall_KW h he

/-! lists -/
theorem w_item {value slice : Expr} {l : Addr} {vs : List Value} {k : Int} {v : Value} (R : Rep G σ s) (hm : Holds G σ l (isLst vs)) (h0 : 0 ≤ k) (hv : vs[k.toNat]? = some v) (hk : k < 2 ^ 63) (h : Q v s)
    (hs : subscripted slice false (.ref l) (.int k u) = operate [.ref l, .int k u] (getItem (.ref l) (.int k u)) := by with_unfolding_all rfl) :
    wpAny (model G.prog G.w) A (subscriptTail value slice (.ref l) (.int k u)) Q E s :=
  have hl := isLst.lst (R.cellH hm)
  tail_any hl.typeIs slot_list_getitem.lookup (wpAny_getItem_list hl h0 hk (by simpa using hv) h) hs
theorem w_getItem {l : Addr} {vs : List Value} {k : Int} {v : Value} (R : Rep G σ s) (hm : Holds G σ l (isLst vs)) (h0 : 0 ≤ k) (hv : vs[k.toNat]? = some v) (hk : k < 2 ^ 63) (h : Q v s) :
    wpAny (model G.prog G.w) A (getItem (.ref l) (.int k u)) Q E s :=
  wpAny_getItem_list (isLst.lst (R.cellH hm)) h0 hk (by simpa using hv) h
theorem w_setItem {l : Addr} {vs : List Value} {k : Int} {v : Value} {σ' : Led} {Q : Unit → Shared → Prop} (R : Rep G σ s) (hu : Upd σ l (isLst vs) (isLst (vs.set k.toNat v)) σ') (h0 : 0 ≤ k) (hn : k < vs.length) (hk : k < 2 ^ 63) (h : ∀ s', Rep G σ' s' → Q () s') :
    wpAny (model G.prog G.w) A (setItem (.ref l) (.int k u) v) Q E s :=
  wpAny_setItem_list (isLst.lst (R.cellM hu.mem)) h0 hk (by simpa using hn) fun h' hl hs => h _ (R.upd' hu hs.extBut (isLst.of (by simpa using hl)))
theorem w_append {l : Addr} {vs : List Value} {v : Value} {σ' : Led} (R : Rep G σ s) (hu : Upd σ l (isLst vs) (isLst (vs ++ [v])) σ') (hz : vs.length ≤ sizeLine) (h : ∀ s', Rep G σ' s' → Q .none s') :
    wpAny (model G.prog G.w) A (call (.builtin "list.append") [.ref l, v]) Q E s :=
  wpAny_list_append (isLst.lst (R.cellM hu.mem)) (fun h' hl hs => h _ (R.upd' hu hs.extBut (isLst.of (by simpa using hl)))) (by simpa using hz)
theorem w_List {elts : List Expr} {pos : Pos} (h : wpAny (model G.prog G.w) A (spliced (backTo pos (starEach elts env))) (fun vs s₁ => vs.length ≤ sizeLine ∧ ∃ σ', Rep G σ' s₁ ∧ ∀ l s', Rep G ((l, isLst vs) :: σ') s' → Q (.ref l) s') E s) :
    wpAny (model G.prog G.w) A (eval (.List elts pos) env) Q E s :=
  wpAny_List (wpAny_mono h (fun vs s₁ ⟨hz, σ', R, h'⟩ => ⟨hz, h' _ _ (R.push _ ⟨rfl, 0, rfl⟩)⟩) fun _ _ x => x)
theorem w_Tuple {elts : List Expr} {k : Nat} {pos : Pos} (h : wpAny (model G.prog G.w) A (spliced (backTo pos (starEach elts env))) (fun vs s₁ => vs.length ≤ sizeLine ∧ ∃ σ', Rep G σ' s₁ ∧ ∀ l s', Rep G ((l, isTpl vs) :: σ') s' → Q (.ref l) s') E s) :
    wpAny (model G.prog G.w) A (eval (.Tuple elts k pos) env) Q E s :=
  wpAny_Tuple (wpAny_mono h (fun vs s₁ ⟨hz, σ', R, h'⟩ => ⟨hz, h' _ _ (R.push _ ⟨rfl, 0, rfl⟩)⟩) fun _ _ x => x)

/-! cells -/
theorem w_cellname {x : Str} {c : Addr} {v : Value} {pos : Pos} (R : Rep G σ s) (he : EnvIs env sc L cl cd) (hc : (x, c) ∈ cl) (hm : Holds G σ c (isCell (some v))) (h : Q v s)
    (hl : sc.names.lookup x = some .cell := by kernel_rfl) (hd : (x == ("__debug__" : Str)) = false := by kernel_rfl) (hn : nodupB (cl.map (·.1)) = true := by kernel_rfl) : wpAny (model G.prog G.w) A (eval (.Name x pos) env) Q E s :=
  wpAny_Name (wpAny_loadName_cell he.kind (he.kindOf hl) (by rw [he.cells]; exact lookup_of_mem (nodup_of_B hn) hc) (R.cellH hm) h) hd
theorem w_freename {x : Str} {c : Addr} {v : Value} {pos : Pos} (R : Rep G σ s) (he : EnvIs env sc L cl cd) (hc : (x, c) ∈ cl) (hm : Holds G σ c (isCell (some v))) (h : Q v s)
    (hl : sc.names.lookup x = some .free := by kernel_rfl) (hd : (x == ("__debug__" : Str)) = false := by kernel_rfl) (hn : nodupB (cl.map (·.1)) = true := by kernel_rfl) (hx : (x == ("__classdict__" : Str)) = false := by kernel_rfl) : wpAny (model G.prog G.w) A (eval (.Name x pos) env) Q E s :=
  wpAny_Name (wpAny_loadName_free he.kind (he.kindOf hl) (by rw [he.cells]; exact lookup_of_mem (nodup_of_B hn) hc) (R.cellH hm) h hx) hd
theorem w_loadCell {x : Str} {c : Addr} {v : Value} (R : Rep G σ s) (he : EnvIs env sc L cl cd) (hc : (x, c) ∈ cl) (hm : Holds G σ c (isCell (some v))) (h : Q v s)
    (hl : sc.names.lookup x = some .cell := by kernel_rfl) (hn : nodupB (cl.map (·.1)) = true := by kernel_rfl) : wpAny (model G.prog G.w) A (loadName env x) Q E s :=
  wpAny_loadName_cell he.kind (he.kindOf hl) (by rw [he.cells]; exact lookup_of_mem (nodup_of_B hn) hc) (R.cellH hm) h
theorem w_storeCell {x : Str} {c : Addr} {v₀ : Option Value} {v : Value} {σ' : Led} {Q : Unit → Shared → Prop} (R : Rep G σ s) (he : EnvIs env sc L cl cd) (hc : (x, c) ∈ cl) (hu : Upd σ c (isCell v₀) (isCell (some v)) σ') (h : ∀ s', Rep G σ' s' → Q () s')
    (hl : sc.names.lookup x = some .cell := by kernel_rfl) (hn : nodupB (cl.map (·.1)) = true := by kernel_rfl) : wpAny (model G.prog G.w) A (storeName env x v) Q E s :=
  wpAny_storeName_cell he.kind (he.kindOf hl) (by rw [he.cells]; exact lookup_of_mem (nodup_of_B hn) hc) (R.cellM hu.mem) fun h' hc' hs => h _ (R.upd' hu hs.extBut hc')
end
end Bl

end
section
open PySem PySem.W PyProof.Rows PySem.Calls
set_option Elab.async false
set_option maxRecDepth 100000
namespace Bl
def isRng (a b c : Int) : Cell := fun o => ∃ t u v, o = { cls := .type "range", dict := none, data := .fields #[.int a t, .int b u, .int c v], slots := #[] }
def isRngIter (x left step : Int) : Cell := fun o => o = { cls := .type "range_iterator", dict := none, data := .fields #[rawInt x, rawInt left, rawInt step], slots := #[] }
def isLstIter (l : Addr) (i : Nat) : Cell := fun o => o.cls = .type "list_iterator" ∧ o.data = .fields #[.ref l, .int i 0]

/-- an iterator: what it hands out, as a ledger sees it -/
structure Iter {KP : Params → Frag} (G : Gd KP) (it : Addr) (c : Nat → Cell) (n : Nat) (P : Nat → Value → Prop) (dep : Led → Prop) : Prop where
  nt : it ∉ G.ltabs
  up : ∀ {x : Addr × Cell} {τ : Led}, dep τ → dep (x :: τ)
  next : ∀ {A : Around} {σ : Led} {s : Shared} {i : Nat} {Q : Option Value → Shared → Prop} {E : Value → Shared → Prop}, A.handled = none → Rep G ((it, c i) :: σ) s → dep σ → i < n →
    (∀ v s', P i v → Rep G ((it, c (i + 1)) :: σ) s' → Q (some v) s') → wpAny (model G.prog G.w) A (pyNext (.ref it)) Q E s
  stop : ∀ {A : Around} {σ : Led} {s : Shared} {Q : Option Value → Shared → Prop} {E : Value → Shared → Prop}, A.handled = none → Rep G ((it, c n) :: σ) s → dep σ → (∀ s', Rep G σ s' → Q none s') → wpAny (model G.prog G.w) A (pyNext (.ref it)) Q E s
  self : ∀ {A : Around} {σ : Led} {s : Shared} {i : Nat} {Q : Value → Shared → Prop} {E : Value → Shared → Prop}, Rep G ((it, c i) :: σ) s → Q (.ref it) s → wpAny (model G.prog G.w) A (pyIter (.ref it)) Q E s

section
variable {KP : Params → Frag} {G : Gd KP} {A : Around} {E : Value → Shared → Prop} {σ : Led} {s : Shared} {env : Env} {L : Addr} {ρ : List (Str × Option Value)} {sc : Scope} {cl : List (Str × Addr)} {cd : Value}

theorem Rep.updHead {a : Addr} {c c' : Cell} {s' : Shared} (R : Rep G ((a, c) :: σ) s) (hx : Heap.ExtBut a s.heap s'.heap) (hc : ∃ o, s'.heap.get? a = some o ∧ c' o) (hg : s'.gens = s.gens := by rfl) (ho : s'.os = s.os := by rfl) (hd' : s'.drawn = s.drawn := by rfl) : Rep G ((a, c') :: σ) s' :=
  R.upd' .head hx hc hg ho hd'

theorem Iter.range {it : Addr} (hn : it ∉ G.ltabs) (a c : Int) (n : Nat) : Iter G it (fun i => isRngIter (a + i * c) ((n : Int) - i) c) n (fun i v => ∃ t, v = .int (a + i * c) t) (fun _ => True) where
  nt := hn
  up := fun _ => trivial
  next := fun {A σ s i Q E} _ R _ hi h => by
    obtain ⟨o, h1, h2⟩ := R.cellM (.head _)
    have hit : IsRangeIter s.heap it (a + i * c) ((n : Int) - i) c := h1.trans (congrArg some h2)
    refine wpAny_pyNext_range_item hit (by omega) fun h' hit' hs' => h _ _ ⟨_, rfl⟩ (R.updHead hs'.extBut ⟨_, hit', ?_⟩)
    have e1 : a + ((i + 1 : Nat) : Int) * c = a + (i : Int) * c + c := by push_cast; rw [Int.add_mul, Int.one_mul, Int.add_assoc]
    have e2 : (n : Int) - ((i + 1 : Nat) : Int) = (n : Int) - (i : Int) - 1 := by push_cast; omega
    show _ = _
    rw [e1, e2]
  stop := fun {A σ s Q E} hA R _ h => by
    obtain ⟨o, h1, h2⟩ := R.cellM (.head _)
    have hit : IsRangeIter s.heap it (a + n * c) ((n : Int) - n) c := h1.trans (congrArg some h2)
    exact wpAny_pyNext_range_end hA hit (by omega) fun h' he' => h _ (R.del he' hn)
  self := fun {A σ s i Q E} R h => by
    obtain ⟨o, h1, h2⟩ := R.cellM (.head _)
    have hit : IsRangeIter s.heap it (a + i * c) ((n : Int) - i) c := h1.trans (congrArg some h2)
    exact wpAny_pyIter_rangeiter hit h
theorem Iter.list {it l : Addr} {vs : List Value} (hn : it ∉ G.ltabs) : Iter G it (fun i => isLstIter l i) vs.length (fun i v => vs[i]? = some v) (fun σ => Holds G σ l (isLst vs)) where
  nt := hn
  up := fun h => h.tail
  next := fun {A σ s i Q E} _ R hd hi h => by
    obtain ⟨o, h1, h2⟩ := R.cellM (.head _)
    have hl := isLst.lst (R.cellH hd.tail)
    refine wpAny_pyNext_list_item (x := vs[i]) ⟨o, h1, h2⟩ hl (by simp [hi]) fun h' hit' hs' => h _ _ (by simp [hi]) (R.updHead hs'.extBut hit')
  stop := fun {A σ s Q E} hA R hd h => by
    obtain ⟨o, h1, h2⟩ := R.cellM (.head _)
    have hl := isLst.lst (R.cellH hd.tail)
    exact wpAny_pyNext_list_end hA ⟨o, h1, h2⟩ hl (by simp) fun h' he' => h _ (R.del he' hn)
  self := fun {A σ s i Q E} R h => by
    obtain ⟨o, h1, h2⟩ := R.cellM (.head _)
    exact wpAny_pyIter_listiter ⟨o, h1, h2⟩ h
theorem w_iterList {l : Addr} {vs : List Value} {Q : Value → Shared → Prop} (R : Rep G σ s) (hm : Holds G σ l (isLst vs)) (h : ∀ it s', it ∉ G.ltabs → Rep G ((it, isLstIter l 0) :: σ) s' → Q (.ref it) s') :
    wpAny (model G.prog G.w) A (pyIter (.ref l)) Q E s :=
  wpAny_pyIter_list (isLst.lst (R.cellH hm)) (h _ _ (R.none_of (get?_size _)).2.2.1 (R.push (t := s.toks) _ ⟨rfl, rfl⟩))
theorem w_range1 {n : Int} {t : Tok} {Q : Value → Shared → Prop} (R : Rep G σ s) (h : ∀ r s', Rep G ((r, isRng 0 n 1) :: σ) s' → Q (.ref r) s') : wpAny (model G.prog G.w) A (call (.type "range") [.int n t]) Q E s :=
  call_range_1 (h _ _ (R.push _ ⟨_, _, _, rfl⟩))
theorem w_range2 {a n : Int} {t u : Tok} {Q : Value → Shared → Prop} (R : Rep G σ s) (h : ∀ r s', Rep G ((r, isRng a n 1) :: σ) s' → Q (.ref r) s') : wpAny (model G.prog G.w) A (call (.type "range") [.int a t, .int n u]) Q E s :=
  call_range_2 (h _ _ (R.push _ ⟨_, _, _, rfl⟩))
theorem w_iterRange {r : Addr} {a b : Int} {n : Nat} {Q : Value → Shared → Prop} (R : Rep G σ s) (hm : Holds G σ r (isRng a b 1)) (hab : b - a = n) (ha : -(2 ^ 62) ≤ a) (hb : b < 2 ^ 62)
    (h : ∀ it s', it ∉ G.ltabs → Rep G ((it, isRngIter (a + (0 : Nat) * 1) ((n : Int) - (0 : Nat)) 1) :: σ) s' → Q (.ref it) s') :
    wpAny (model G.prog G.w) A (pyIter (.ref r)) Q E s := by
  obtain ⟨o, h1, t, u, v, rfl⟩ := R.cellH hm
  refine wpAny_pyIter_range h1 (small_one ha (by omega) (by omega) hb) (h _ _ (R.none_of (get?_size _)).2.2.1 (R.push (t := s.toks) _ ?_))
  have e : Builtin.Range.rangeSize a b 1 = n := by rw [rangeSize_one]; split <;> omega
  show _ = _
  rw [e]; simp

/-! for -/
theorem w_forLoop {it : Addr} {c : Nat → Cell} {n : Nat} {P : Nat → Value → Prop} {dep : Led → Prop} {target : Expr} {body : List Stmt} {R' : Result → Shared → Prop} (I : Iter G it c n P dep) (J : Nat → Led → Prop) (hA : A.handled = none)
    (R : Rep G ((it, c 0) :: σ) s) (h0 : J 0 σ) (hdep : ∀ i σ', J i σ' → dep σ')
    (turn : ∀ (E' : Value → Shared → Prop) i σ' s' v, i < n → P i v → J i σ' → Rep G ((it, c (i + 1)) :: σ') s' →
      wpAny (model G.prog G.w) A (assign target env v) (fun _ s₂ => wpAny (model G.prog G.w) A (execs body env) (fun fl s₃ => match fl with
        | .next | .cont => ∃ σ'', Rep G ((it, c (i + 1)) :: σ'') s₃ ∧ J (i + 1) σ''
        | .brk => R' (.ok .next) s₃
        | .ret v => R' (.ok (.ret v)) s₃) E' s₂) E' s')
    (done : ∀ σ' s', J n σ' → Rep G σ' s' → R' (.ok .next) s')
    (ht : ∀ v, letOwnedTupleGo target (.ref it) v = pure () := by intro _; rfl) : codeAny (model G.prog G.w) A (.forLoop target (.ref it) body [] env) R' s := by
  refine codeAny_forLoop (fun k s' => ∃ i σ', Rep G ((it, c i) :: σ') s' ∧ J i σ' ∧ i ≤ n ∧ k = n + 1 - i) ?_ (n + 1) ⟨0, σ, R, h0, Nat.zero_le _, rfl⟩ ht
  rintro k s' ⟨i, σ', R', hJ, hi, rfl⟩
  by_cases hlt : i < n
  · refine I.next hA R' (hdep _ _ hJ) hlt fun v s₁ hP R₁ => ?_
    refine wpAny_mono (turn _ i σ' s₁ v hlt hP hJ R₁) (fun _ s₂ h₂ => wpAny_mono h₂ (fun fl s₃ h₃ => ?_) fun _ _ e => e) fun _ _ e => e
    cases fl with
    | ret v => exact h₃
    | brk => exact h₃
    | next => obtain ⟨σ'', r, j⟩ := h₃; exact ⟨n + 1 - (i + 1), by omega, i + 1, σ'', r, j, hlt, rfl⟩
    | cont => obtain ⟨σ'', r, j⟩ := h₃; exact ⟨n + 1 - (i + 1), by omega, i + 1, σ'', r, j, hlt, rfl⟩
  · have hin : i = n := by omega
    subst hin
    exact I.stop hA R' (hdep _ _ hJ) fun s₁ R₁ => wpAny_execs_nil (done _ _ hJ R₁)

/-! while -/
theorem w_while {test : Expr} {body : List Stmt} {R' : Result → Shared → Prop} (J : Nat → Led → Prop) {k₀ : Nat} (R : Rep G σ s) (h0 : J k₀ σ)
    (turn : ∀ (E' : Value → Shared → Prop) k σ' s', J k σ' → Rep G σ' s' →
      wpAny (model G.prog G.w) A (isTrue test env (eval test env)) (fun b s₂ => if b then wpAny (model G.prog G.w) A (execs body env) (fun fl s₃ => match fl with
        | .next | .cont => ∃ k' σ'', k' < k ∧ Rep G σ'' s₃ ∧ J k' σ''
        | .brk => R' (.ok .next) s₃
        | .ret v => R' (.ok (.ret v)) s₃) E' s₂ else R' (.ok .next) s₂) E' s') : codeAny (model G.prog G.w) A (.whileLoop test body [] env) R' s := by
  refine codeAny_whileLoop (fun k s' => ∃ σ', Rep G σ' s' ∧ J k σ') ?_ k₀ ⟨σ, R, h0⟩
  rintro k s' ⟨σ', R', hJ⟩
  refine wpAny_mono (turn _ k σ' s' hJ R') (fun b s₂ h₂ => ?_) fun _ _ e => e
  cases b with
  | false => exact wpAny_execs_nil h₂
  | true =>
    simp only [if_true] at h₂ ⊢
    refine wpAny_mono h₂ (fun fl s₃ h₃ => ?_) fun _ _ e => e
    cases fl with
    | ret v => exact h₃
    | brk => exact h₃
    | next => obtain ⟨k', σ'', a, b, c⟩ := h₃; exact ⟨k', a, σ'', b, c⟩
    | cont => obtain ⟨k', σ'', a, b, c⟩ := h₃; exact ⟨k', a, σ'', b, c⟩

/-! comprehensions -/
def relab (scope sc : Scope) : Scope := { scope with names := scope.names.map fun (n, k) => if (k == .free && sc.names.lookup n == some .cell) then (n, .cell) else (n, k) }
theorem EnvIs.relabel (he : EnvIs env sc L cl cd) (scope : Scope) : relabel scope env = relab scope sc := by
  unfold PySem.relabel relab
  congr 1
  refine List.map_congr_left fun x _ => ?_
  obtain ⟨n, k⟩ := x
  have e : env.kindOf n = sc.names.lookup n := by show env.scope.names.lookup n = _; rw [he.scope]
  simp only [he.kind, e]
  simp
def closOf (cells : List (Str × Addr)) : List (Str × NameKind) → List (Str × Addr) → Option (List (Str × Addr))
  | [], acc => some acc
  | (n, k) :: r, acc => if k == .free then (match cells.lookup n with | some c => closOf cells r ((n, c) :: acc) | none => none) else closOf cells r acc
theorem EnvIs.clos (he : EnvIs env sc L cl cd) {scope : Scope} {cl' : List (Str × Addr)} (h : closOf cl scope.names [] = some cl') : closureFor scope env = pure cl' := by
  unfold closureFor
  have key : ∀ (names : List (Str × NameKind)) (acc : List (Str × Addr)) (r : List (Str × Addr)), closOf cl names acc = some r →
      (forIn names acc fun x (cs : List (Str × Addr)) => if (x.2 == NameKind.free) = true then (do let c ← cellOf env x.1; pure (ForInStep.yield ((x.1, c) :: cs))) else pure (ForInStep.yield cs)) = (pure r : Sem _) := by
    intro names
    induction names with
    | nil => intro acc r e; cases e; rfl
    | cons p rest ih =>
      obtain ⟨n, k⟩ := p
      intro acc r e
      rw [List.forIn_cons]
      unfold closOf at e
      by_cases hk : (k == NameKind.free) = true
      · rw [if_pos hk] at e
        dsimp only
        rw [if_pos hk]
        split at e
        · rename_i c hc
          have : cellOf env n = pure c := by unfold cellOf; rw [he.cells, hc]
          rw [this]
          exact ih _ _ e
        · cases e
      · rw [if_neg hk] at e
        dsimp only
        rw [if_neg hk]
        exact ih _ _ e
  have := key scope.names [] cl' h
  simp only at this ⊢
  first
    | (rw [this]; rfl)
    | (refine Eq.trans (congrArg (fun t => t >>= pure) ?_) (by rfl); exact this)
def testsOf (ifs : List Expr) (cenv : Env) : Sem Bool := forIn ifs true fun c r => if r = true then do let ok ← isTrue c cenv (eval c cenv); pure (ForInStep.yield ok) else pure (ForInStep.yield r)

/-- what a comprehension's source must show -/
def CompGo {α : Type} (G : Gd KP) (A : Around) (elt target : Expr) (ifs : List Expr) (sc' : Scope) (cl' : List (Str × Addr)) (cd : Value) (ρc : α → List (Str × Option Value)) (fin : Addr → List Value → Led → Shared → Prop) (itv : Value) (s₂ : Shared) : Prop :=
  ∃ (it : Addr) (c : Nat → Cell) (n : Nat) (P : Nat → Value → Prop) (dep : Led → Prop) (σ : Led) (J : Nat → List Value → Led → Prop), itv = .ref it ∧ Iter G it c n P dep ∧ Rep G ((it, c 0) :: σ) s₂ ∧ J 0 [] σ ∧ (∀ i acc σ', J i acc σ' → dep σ') ∧ n ≤ sizeLine ∧
    (∀ (E' : Value → Shared → Prop) C D cenv a i acc σ' s' v, EnvIs cenv sc' C cl' cd → i < n → P i v → J i acc σ' → Rep G ((C, isNs (ρc a)) :: (D, isLst acc) :: (it, c (i + 1)) :: σ') s' →
      wpAny (model G.prog G.w) A (assign target cenv v) (fun _ s₃ => wpAny (model G.prog G.w) A (testsOf ifs cenv) (fun ok s₄ =>
        if ok = true then wpAny (model G.prog G.w) A (eval elt cenv) (fun y s₅ => ∃ a' σ'', Rep G ((C, isNs (ρc a')) :: (D, isLst acc) :: (it, c (i + 1)) :: σ'') s₅ ∧ J (i + 1) (acc ++ [y]) σ'') E' s₄
        else ∃ a' σ'', Rep G ((C, isNs (ρc a')) :: (D, isLst acc) :: (it, c (i + 1)) :: σ'') s₄ ∧ J (i + 1) acc σ'') E' s₃) E' s') ∧
    (∀ D acc σ' s', J n acc σ' → Rep G ((D, isLst acc) :: σ') s' → fin D acc σ' s')

theorem swap2 {p q : Addr × Cell} {τ : Led} (R : Rep G (p :: q :: τ) s) : Rep G (q :: p :: τ) s := by
  refine R.sub (fun x hx => ?_) ?_
  · rcases List.mem_cons.mp hx with rfl | hx
    · exact .tail _ (.head _)
    · rcases List.mem_cons.mp hx with rfl | hx
      · exact .head _
      · exact .tail _ (.tail _ hx)
  · have h := R.nd
    simp only [List.map_cons, List.nodup_cons, List.mem_cons, not_or] at h ⊢
    exact ⟨⟨fun e => h.1.1 e.symm, h.2.1⟩, h.1.2, h.2.2⟩
/-- the third entry ahead -/
theorem third1 {p q r : Addr × Cell} {τ : Led} (R : Rep G (p :: q :: r :: τ) s) : Rep G (r :: p :: q :: τ) s := by
  refine R.sub (fun x hx => ?_) ?_
  · rcases List.mem_cons.mp hx with rfl | hx
    · exact .tail _ (.tail _ (.head _))
    · rcases List.mem_cons.mp hx with rfl | hx
      · exact .head _
      · rcases List.mem_cons.mp hx with rfl | hx
        · exact .tail _ (.head _)
        · exact .tail _ (.tail _ (.tail _ hx))
  · have h := R.nd
    simp only [List.map_cons, List.nodup_cons, List.mem_cons, not_or] at h ⊢
    exact ⟨⟨fun e => h.1.2.1 e.symm, fun e => h.2.1.1 e.symm, h.2.2.1⟩, ⟨h.1.1, h.1.2.2⟩, h.2.1.2, h.2.2.2⟩
theorem third3 {p q r : Addr × Cell} {τ : Led} (R : Rep G (r :: p :: q :: τ) s) : Rep G (p :: q :: r :: τ) s := third1 (third1 R)

theorem comp_loop {α : Type} {elt target iter : Expr} {ifs : List Expr} {scope : Scope} {pos : Pos} {sc' : Scope} {cl' : List (Str × Addr)} {ρc : α → List (Str × Option Value)} {R' : Result → Shared → Prop} {C D : Addr} {cenv : Env} {a₀ : α}
    {it : Addr} {c : Nat → Cell} {n : Nat} {P : Nat → Value → Prop} {dep : Led → Prop} {σ : Led} {J : Nat → List Value → Led → Prop} (hA : A.handled = none) (I : Iter G it c n P dep) (he : EnvIs cenv sc' C cl' cd)
    (R : Rep G ((C, isNs (ρc a₀)) :: (D, isLst []) :: (it, c 0) :: σ) s) (h0 : J 0 [] σ) (hdep : ∀ i acc σ', J i acc σ' → dep σ') (hn : n ≤ sizeLine)
    (turn : ∀ (E' : Value → Shared → Prop) C D cenv a i acc σ' s' v, EnvIs cenv sc' C cl' cd → i < n → P i v → J i acc σ' → Rep G ((C, isNs (ρc a)) :: (D, isLst acc) :: (it, c (i + 1)) :: σ') s' →
      wpAny (model G.prog G.w) A (assign target cenv v) (fun _ s₃ => wpAny (model G.prog G.w) A (testsOf ifs cenv) (fun ok s₄ =>
        if ok = true then wpAny (model G.prog G.w) A (eval elt cenv) (fun y s₅ => ∃ a' σ'', Rep G ((C, isNs (ρc a')) :: (D, isLst acc) :: (it, c (i + 1)) :: σ'') s₅ ∧ J (i + 1) (acc ++ [y]) σ'') E' s₄
        else ∃ a' σ'', Rep G ((C, isNs (ρc a')) :: (D, isLst acc) :: (it, c (i + 1)) :: σ'') s₄ ∧ J (i + 1) acc σ'') E' s₃) E' s')
    (done : ∀ a acc σ' s', J n acc σ' → Rep G ((C, isNs (ρc a)) :: (D, isLst acc) :: σ') s' → R' (.ok .next) s')
    (ht : ∀ v, letOwnedTupleGo target (.ref it) v = pure ()) :
    codeAny (model G.prog G.w) A (.compLoop (.ListComp elt [⟨target, iter, ifs, 0⟩] scope pos) 0 (.ref it) (.ref D) cenv) R' s := by
  refine codeAny_compLoop_tests (fun k s' => ∃ i a acc σ', Rep G ((C, isNs (ρc a)) :: (D, isLst acc) :: (it, c i) :: σ') s' ∧ J i acc σ' ∧ acc.length ≤ i ∧ i ≤ n ∧ k = n + 1 - i) ?_ (n + 1) ⟨0, a₀, [], σ, R, h0, Nat.le_refl _, Nat.zero_le _, rfl⟩ ht
  rintro k s' ⟨i, a, acc, σ', Rk, hJ, hl, hi, rfl⟩
  by_cases hlt : i < n
  · refine I.next hA (third1 Rk) (I.up (I.up (hdep _ _ _ hJ))) hlt fun v s₁ hP R₁ => ?_
    refine wpAny_mono (turn _ C D cenv a i acc σ' s₁ v he hlt hP hJ (third3 R₁)) (fun _ s₂ h₂ => wpAny_mono h₂ (fun ok s₃ h₃ => ?_) fun _ _ e => e) fun _ _ e => e
    cases ok with
    | false =>
      simp only [Bool.false_eq_true, if_false] at h₃ ⊢
      obtain ⟨a', σ'', r, j⟩ := h₃
      exact ⟨n + 1 - (i + 1), by omega, i + 1, a', acc, σ'', r, j, Nat.le_succ_of_le hl, hlt, rfl⟩
    | true =>
      simp only [if_true] at h₃ ⊢
      refine wpAny_mono h₃ (fun y s₄ h₄ => ?_) fun _ _ e => e
      obtain ⟨a', σ'', r, j⟩ := h₄
      refine w_append r (.tail .head) (by omega) fun s₅ R₅ => ⟨n + 1 - (i + 1), by omega, i + 1, a', acc ++ [y], σ'', R₅, j, by simp; omega, hlt, rfl⟩
  · have hin : i = n := by omega
    subst hin
    exact I.stop hA (third1 Rk) (I.up (I.up (hdep _ _ _ hJ))) fun s₁ R₁ => done _ _ _ _ hJ R₁

theorem frame0_nil_look (scope : Scope) (y : Str) : (none : Option Value) = look (frame0 scope []) y := by
  rw [← look_frame0 (sc := scope) (binds := []) List.nodup_nil]
  rfl

/-- the head of a comprehension: the list, its frame -/
theorem comp_block {α : Type} {elt target iter : Expr} {ifs : List Expr} {scope : Scope} {pos : Pos} {cl' : List (Str × Addr)} {ρc : α → List (Str × Option Value)} {a₀ : α} {itv : Value} {fin : Addr → List Value → Led → Shared → Prop} {RR : Value → Addr → Result → Shared → Prop}
    (hA : A.handled = none) (he : EnvIs env sc L cl cd) (hcell : (scope.names.all fun p => p.2 != .cell) = true) (hkind : scope.kind = .function) (hnd : nodupB ((frame0 scope []).map (·.1)) = true) (hρ : frame0 scope [] = ρc a₀)
    (hgo : CompGo G A elt target ifs (relab scope sc) cl' cd ρc fin itv s)
    (hfin : ∀ C D acc σ' a s', C ∉ G.ltabs → (∀ s'', Rep G ((D, isLst acc) :: σ') s'' → fin D acc σ' s'') → Rep G ((C, isNs (ρc a)) :: (D, isLst acc) :: σ') s' → RR (.ref D) C (.ok .next) s')
    (ht : ∀ v i, letOwnedTupleGo target (.ref i) v = pure ()) :
    wpAny (model G.prog G.w) A (newList []) (fun acc s₃ => wpAny (model G.prog G.w) A (newFunctionEnv scope env.globals cl' [] env.qual none .none (some env)) (fun cenv s₄ =>
      codeAny (model G.prog G.w) A (.compStart (.ListComp elt [⟨target, iter, ifs, 0⟩] scope pos) 0 itv acc { cenv with scope := relabel scope env }) (RR acc cenv.locals) s₄) E s₃) E s := by
  obtain ⟨it, c, n, P, dep, σ, J, rfl, I, R, h0, hdep, hn, turn, done⟩ := hgo
  refine wpAny_newObj_type ?_
  have RD := R.push (c := isLst []) (t := s.toks) ({ cls := .type "list", data := .seq ([] : List Value).toArray } : Obj) ⟨rfl, 0, rfl⟩
  generalize s.heap.objs.size = D at RD ⊢
  refine wpAny_newFunctionEnv (fun x hx => by have := List.all_eq_true.mp hcell x hx; simpa using this) (by intro y hy; simp at hy) (fun h₁ hns hsb => ?_) hkind
  have hC := RD.none_of (get?_size _)
  obtain ⟨o', h1, h2⟩ := isNs.of (ρ := frame0 scope []) hns (nodup_of_B hnd) (frame0_nil_look scope)
  rw [hρ] at h2
  have R₄ := RD.add (s' := { s with heap := h₁, toks := s.toks + ([] : List (Str × Value)).length }) (get?_size _) (fun b o e => hsb.extBut b o (Nat.ne_of_lt (Heap.lt_size e)) (Heap.get?_push_of_some _ e)) h1 h2
  have hCt := hC.2.2.1
  simp only at R₄ hCt ⊢
  generalize (s.heap.push { cls := .type "list", data := .seq ([] : List Value).toArray }).objs.size = C at R₄ hCt ⊢
  have hce : EnvIs { newEnv scope C env.globals cl' env.qual none .none (some env) builtinsNs with scope := relabel scope env } (relab scope sc) C cl' cd :=
    ⟨he.relabel scope, rfl, he.globals, he.builtins, rfl, he.code, by show (PySem.relabel scope env).kind = _; exact hkind⟩
  have loop : ∀ s₄, Rep G ((C, isNs (ρc a₀)) :: (D, isLst []) :: (it, c 0) :: σ) s₄ → codeAny (model G.prog G.w) A (.compLoop (.ListComp elt [⟨target, iter, ifs, 0⟩] scope pos) 0 (.ref it) (.ref D) { newEnv scope C env.globals cl' env.qual none .none (some env) builtinsNs with scope := relabel scope env }) (RR (.ref D) C) s₄ := fun s₄ R₄ =>
    comp_loop (R' := RR (.ref D) C) hA I hce R₄ h0 hdep hn turn (fun a acc σ' s' hJ R' => hfin C D acc σ' a s' hCt (fun s'' R'' => done D acc σ' s'' hJ R'') R') (fun v => ht v it)
  refine codeAny_compStart_list (loop _ R₄) (I.self (third1 R₄) (loop _ R₄))

theorem names_lookup {names : List (Str × NameKind)} (h : nodupB (names.map (·.1)) = true) : ∀ x ∈ names, x.2 = .local → names.lookup x.1 = some .local := fun x hx e => by
  obtain ⟨n, k⟩ := x
  simp only at e
  subst e
  exact lookup_of_mem (nodup_of_B h) hx

theorem w_ListComp {α : Type} (ρc : α → List (Str × Option Value)) (a₀ : α) {elt target iter : Expr} {ifs : List Expr} {scope : Scope} {pos : Pos} {cl' : List (Str × Addr)} {Q : Value → Shared → Prop}
    (hA : A.handled = none) (he : EnvIs env sc L cl cd) (hclos : closOf cl scope.names [] = some cl')
    (h : wpAny (model G.prog G.w) A (eval iter env) (fun xv s₁ => wpAny (model G.prog G.w) A (pyIter xv) (fun itv s₂ => CompGo G A elt target ifs (relab scope sc) cl' cd ρc (fun D _ _ s' => Q (.ref D) s') itv s₂) E s₁) E s)
    (hρ : frame0 scope [] = ρc a₀ := by rfl)
    (hcell : (scope.names.all fun p => p.2 != .cell) = true := by kernel_rfl) (hkind : scope.kind = .function := by kernel_rfl) (hnd : nodupB ((frame0 scope []).map (·.1)) = true := by kernel_rfl) (hnn : nodupB (scope.names.map (·.1)) = true := by kernel_rfl)
    (hs : ∀ x, foldedSetIterable iter env x = pure x := by intro _; rfl) (ht : ∀ v i, letOwnedTupleGo target (.ref i) v = pure () := by intro _ _; rfl) :
    wpAny (model G.prog G.w) A (eval (.ListComp elt [⟨target, iter, ifs, 0⟩] scope pos) env) Q E s := by
  rw [eval_ListComp]
  refine wpAny_comprehension_free (use := none) rfl hs (he.clos hclos) hkind (names_lookup hnn) (wpAny_mono h (fun xv s₁ h₁ => wpAny_mono h₁ (fun itv s₂ h₂ => ?_) fun _ _ e => e) fun _ _ e => e)
  refine comp_block (RR := fun acc C => compPost (model G.prog G.w) A E none Q acc C) hA he hcell hkind hnd hρ h₂ (fun C D acc σ' a s' hCt hq R' => ?_) ht
  exact ⟨_, isNs.ns (R'.cellM (.head _)), fun h'' hs'' => hq _ (R'.del hs''.extBut hCt)⟩

theorem w_AssignComp {α : Type} (ρc : α → List (Str × Option Value)) (a₀ : α) {elt target iter : Expr} {ifs : List Expr} {scope : Scope} {pos spos py : Pos} {y : Str} {cl' : List (Str × Addr)} {Q : Flow → Shared → Prop}
    (hA : A.handled = none) (he : EnvIs env sc L cl cd) (hclos : closOf cl scope.names [] = some cl')
    (h : wpAny (model G.prog G.w) A (eval iter env) (fun xv s₁ => wpAny (model G.prog G.w) A (pyIter xv) (fun itv s₂ => CompGo G A elt target ifs (relab scope sc) cl' cd ρc
      (fun D acc σ' _ => ∃ ρ ρ' σ'', Upd σ' L (isNs ρ) (isNs ρ') σ'' ∧ Put ρ y (.ref D) ρ' ∧ ∀ s'', Rep G ((D, isLst acc) :: σ'') s'' → Q .next s'') itv s₂) E s₁) E s)
    (hy : sc.names.lookup y = some .local := by kernel_rfl)
    (hsw : (py.line == pos.line && !(scope.names.any fun (n, k) => n == y && (k == .local || k == .cell))) = true := by kernel_rfl)
    (hρ : frame0 scope [] = ρc a₀ := by rfl)
    (hcell : (scope.names.all fun p => p.2 != .cell) = true := by kernel_rfl) (hkind : scope.kind = .function := by kernel_rfl) (hnd : nodupB ((frame0 scope []).map (·.1)) = true := by kernel_rfl) (hnn : nodupB (scope.names.map (·.1)) = true := by kernel_rfl)
    (hs : ∀ x, foldedSetIterable iter env x = pure x := by intro _; rfl) (ht : ∀ v i, letOwnedTupleGo target (.ref i) v = pure () := by intro _ _; rfl) :
    wpAny (model G.prog G.w) A (exec (.Assign [.Name y py] (.ListComp elt [⟨target, iter, ifs, 0⟩] scope pos) spos) env) Q E s := by
  have hswaps : swapsWith (.ListComp elt [⟨target, iter, ifs, 0⟩] scope pos) (some (.Name y py)) spos.line env = pure true := by
    have hb : env.blockKind = .function := by unfold Env.blockKind; rw [he.kind]; rfl
    show (pure (env.blockKind == .function && env.kindOf y == some .local && py.line == pos.line && !(scope.names.any fun (n, k) => n == y && (k == .local || k == .cell))) : Sem Bool) = pure true
    rw [hb, he.kindOf hy, Bool.and_assoc, hsw]
    rfl
  rw [exec_Assign_Name_used _ _ _ _ hswaps]
  refine wpAny_bind (wpAny_standAt (wpAny_bind ?_))
  show wpAny _ A (do let _ ← comprehension (.ListComp elt [⟨target, iter, ifs, 0⟩] scope pos) scope env _ (newList []) false (eval iter env) (some (assign (.Name y py) env))) _ _ s
  refine wpAny_bind (wpAny_mono (wpAny_comprehension_free (use := some (assign (.Name y py) env)) (Q := fun _ s' => Q .next s') rfl hs (he.clos hclos) hkind (names_lookup hnn) (wpAny_mono h (fun xv s₁ h₁ => wpAny_mono h₁ (fun itv s₂ h₂ => ?_) fun _ _ e => e) fun _ _ e => e))
    (fun _ s' hq => wpAny_pure (wpAny_pure hq)) fun _ _ e => e)
  refine comp_block (RR := fun acc C => compPost (model G.prog G.w) A E (some (assign (.Name y py) env)) (fun _ s' => Q .next s') acc C) hA he hcell hkind hnd hρ h₂ (fun C D acc σ' a s' hCt hq R' => ?_) ht
  obtain ⟨ρ, ρ', σ'', hu, hp, hQ⟩ := hq s' R'.drop1
  refine wpAny_assign_Name (w_store R' he (.tail (.tail hu)) hp (fun s'' R'' => ⟨_, isNs.ns (R''.cellM (.head _)), fun h'' hs'' => hQ _ (R''.del hs''.extBut hCt)⟩) hy)
end
end Bl

end
section
open PySem PySem.W PyProof.Rows PySem.Calls
set_option Elab.async false
set_option maxRecDepth 100000
namespace Bl
/-- a list of ints -/
def isInts (ns : List Int) : Cell := fun o => ∃ vs, IntsAre vs ns ∧ isLst vs o
theorem ints_get : ∀ {vs : List Value} {ns : List Int}, IntsAre vs ns → ∀ {i : Nat} {n : Int}, ns[i]? = some n → ∃ t, vs[i]? = some (.int n t)
  | _, _, .nil, i, n, e => by simp at e
  | _, _, .cons m t h, 0, n, e => by simp at e; subst e; exact ⟨t, rfl⟩
  | _, _, .cons m t h, i + 1, n, e => by simpa using ints_get h (by simpa using e)
theorem ints_set : ∀ {vs : List Value} {ns : List Int}, IntsAre vs ns → ∀ (i : Nat) (n : Int) (t : Tok), IntsAre (vs.set i (.int n t)) (ns.set i n)
  | _, _, .nil, i, n, t => by simpa using IntsAre.nil
  | _, _, .cons m u h, 0, n, t => .cons n t h
  | _, _, .cons m u h, i + 1, n, t => .cons m u (ints_set h i n t)
theorem ints_snoc {vs : List Value} {ns : List Int} (h : IntsAre vs ns) (n : Int) (t : Tok) : IntsAre (vs ++ [.int n t]) (ns ++ [n]) := IntsAre.append h (.cons n t .nil)
theorem ints_back : ∀ {vs : List Value} {ns : List Int}, IntsAre vs ns → ∀ {i : Nat} {v : Value}, vs[i]? = some v → ∃ n t, ns[i]? = some n ∧ v = .int n t
  | _, _, .nil, i, v, e => by simp at e
  | _, _, .cons m t h, 0, v, e => by simp at e; subst e; exact ⟨m, t, rfl, rfl⟩
  | _, _, .cons m t h, i + 1, v, e => by simpa using ints_back h (by simpa using e)

section
variable {KP : Params → Frag} {G : Gd KP} {A : Around} {E : Value → Shared → Prop} {σ : Led} {s : Shared} {env : Env} {L : Addr} {ρ : List (Str × Option Value)} {sc : Scope} {cl : List (Str × Addr)} {cd : Value} {u : Tok}

theorem Rep.conv {a : Addr} {c c' : Cell} (R : Rep G ((a, c) :: σ) s) (h : ∀ o, c o → c' o) : Rep G ((a, c') :: σ) s :=
  { R with
    cells := fun p hp => by
      rcases List.mem_cons.mp hp with rfl | hp
      · obtain ⟨o, e, hc⟩ := R.cells _ (.head _); exact ⟨o, e, h o hc⟩
      · exact R.cells _ (.tail _ hp)
    new := fun p hp => by
      rcases List.mem_cons.mp hp with rfl | hp
      · exact R.new (a, c) (.head _)
      · exact R.new _ (.tail _ hp) }
theorem Rep.toInts {a : Addr} {vs : List Value} {ns : List Int} (R : Rep G ((a, isLst vs) :: σ) s) (h : IntsAre vs ns) : Rep G ((a, isInts ns) :: σ) s := R.conv fun _ hc => ⟨vs, h, hc⟩

theorem w_itemI {value slice : Expr} {l : Addr} {ns : List Int} {k n : Int} {Q : Value → Shared → Prop} (R : Rep G σ s) (hm : Holds G σ l (isInts ns)) (h0 : 0 ≤ k) (hv : ns[k.toNat]? = some n) (hk : k < 2 ^ 63) (h : ∀ t, Q (.int n t) s)
    (hs : subscripted slice false (.ref l) (.int k u) = operate [.ref l, .int k u] (getItem (.ref l) (.int k u)) := by with_unfolding_all rfl) :
    wpAny (model G.prog G.w) A (subscriptTail value slice (.ref l) (.int k u)) Q E s := by
  obtain ⟨o, ho, vs, hi, hl⟩ := R.cellH hm
  obtain ⟨t, ht⟩ := ints_get hi hv
  have hl' : s.heap.IsList l vs.toArray := isLst.lst ⟨o, ho, hl⟩
  exact tail_any hl'.typeIs slot_list_getitem.lookup (wpAny_getItem_list hl' h0 hk (by simpa using ht) (h t)) hs
theorem w_getItemI {l : Addr} {ns : List Int} {k n : Int} {Q : Value → Shared → Prop} (R : Rep G σ s) (hm : Holds G σ l (isInts ns)) (h0 : 0 ≤ k) (hv : ns[k.toNat]? = some n) (hk : k < 2 ^ 63) (h : ∀ t, Q (.int n t) s) :
    wpAny (model G.prog G.w) A (getItem (.ref l) (.int k u)) Q E s := by
  obtain ⟨o, ho, vs, hi, hl⟩ := R.cellH hm
  obtain ⟨t, ht⟩ := ints_get hi hv
  exact wpAny_getItem_list (isLst.lst ⟨o, ho, hl⟩) h0 hk (by simpa using ht) (h t)
theorem w_setItemI {l : Addr} {ns : List Int} {k n : Int} {t : Tok} {σ' : Led} {Q : Unit → Shared → Prop} (R : Rep G σ s) (hu : Upd σ l (isInts ns) (isInts (ns.set k.toNat n)) σ') (h0 : 0 ≤ k) (hn : k < ns.length) (hk : k < 2 ^ 63) (h : ∀ s', Rep G σ' s' → Q () s') :
    wpAny (model G.prog G.w) A (setItem (.ref l) (.int k u) (.int n t)) Q E s := by
  obtain ⟨o, ho, vs, hi, hl⟩ := R.cellM hu.mem
  refine wpAny_setItem_list (isLst.lst ⟨o, ho, hl⟩) h0 hk (by have := hi.length; simp; omega) fun h' hl' hs => h _ (R.upd' hu hs.extBut ?_)
  obtain ⟨o', h1, h2⟩ := isLst.of (h := h') (l := l) (vs := vs.set k.toNat (.int n t)) (by simpa using hl')
  exact ⟨o', h1, _, ints_set hi _ _ _, h2⟩
theorem w_appendI {l : Addr} {ns : List Int} {n : Int} {t : Tok} {σ' : Led} {Q : Value → Shared → Prop} (R : Rep G σ s) (hu : Upd σ l (isInts ns) (isInts (ns ++ [n])) σ') (hz : ns.length ≤ sizeLine) (h : ∀ s', Rep G σ' s' → Q .none s') :
    wpAny (model G.prog G.w) A (call (.builtin "list.append") [.ref l, .int n t]) Q E s := by
  obtain ⟨o, ho, vs, hi, hl⟩ := R.cellM hu.mem
  refine wpAny_list_append (isLst.lst ⟨o, ho, hl⟩) (fun h' hl' hs => h _ (R.upd' hu hs.extBut ?_)) (by have := hi.length; simp; omega)
  obtain ⟨o', h1, h2⟩ := isLst.of (h := h') (l := l) (vs := vs ++ [.int n t]) (by simpa using hl')
  exact ⟨o', h1, _, ints_snoc hi _ _, h2⟩

theorem Iter.ints {it l : Addr} {ns : List Int} (hn : it ∉ G.ltabs) : Iter G it (fun i => isLstIter l i) ns.length (fun i v => ∃ n t, ns[i]? = some n ∧ v = .int n t) (fun σ => Holds G σ l (isInts ns)) where
  nt := hn
  up := fun h => h.tail
  next := fun {A σ s i Q E} _ R hd hi h => by
    obtain ⟨o, h1, h2⟩ := R.cellM (.head _)
    obtain ⟨ol, hol, vs, hv, hl⟩ := R.cellH hd.tail
    have hlen := hv.length
    refine wpAny_pyNext_list_item (x := vs[i]) ⟨o, h1, h2⟩ (isLst.lst ⟨ol, hol, hl⟩) (by simp) fun h' hit' hs' => h _ _ (ints_back hv (by simp)) (R.updHead hs'.extBut hit')
  stop := fun {A σ s Q E} hA R hd h => by
    obtain ⟨o, h1, h2⟩ := R.cellM (.head _)
    obtain ⟨ol, hol, vs, hv, hl⟩ := R.cellH hd.tail
    have hlen := hv.length
    exact wpAny_pyNext_list_end hA ⟨o, h1, h2⟩ (isLst.lst ⟨ol, hol, hl⟩) (by simp; omega) fun h' he' => h _ (R.del he' hn)
  self := fun {A σ s i Q E} R h => by
    obtain ⟨o, h1, h2⟩ := R.cellM (.head _)
    exact wpAny_pyIter_listiter ⟨o, h1, h2⟩ h
theorem w_iterInts {l : Addr} {ns : List Int} {Q : Value → Shared → Prop} (R : Rep G σ s) (hm : Holds G σ l (isInts ns)) (h : ∀ it s', it ∉ G.ltabs → Rep G ((it, isLstIter l 0) :: σ) s' → Q (.ref it) s') :
    wpAny (model G.prog G.w) A (pyIter (.ref l)) Q E s := by
  obtain ⟨ol, hol, vs, hv, hl⟩ := R.cellH hm
  exact wpAny_pyIter_list (isLst.lst ⟨ol, hol, hl⟩) (h _ _ (R.none_of (get?_size _)).2.2.1 (R.push (t := s.toks) _ ⟨rfl, rfl⟩))

/-! what min, max and sum draw from -/
def IntSrc (G : Gd KP) (A : Around) (v : Value) (vals : List Int) (fin : Shared → Prop) (s : Shared) : Prop :=
  ∀ (Q : Value → Shared → Prop) (E : Value → Shared → Prop),
    (∀ (I : Addr) (fp wr : List Addr) (GG : Array GenState → Array GenState → Prop) (n : Nat) (P : Nat → Value → Prop) (St : Nat → Shared → Prop) (val : Nat → Int) (s₂ : Shared), WalksS G.prog G.w A.in1 I fp wr GG n P St → St 0 s₂ → (∀ b ∈ fp, b < s₂.heap.objs.size) → n = vals.length →
      (∀ i v, P i v → ∃ t, v = .int (val i) t) → (∀ i, i < n → vals[i]? = some (val i)) → (∀ s', Moved wr GG s₂ s' → fin s') → Q (.ref I) s₂) →
    wpAny (model G.prog G.w) A.in1 (pyIter v) Q E s

theorem argBest_least {val : Nat → Int} : ∀ k, argBest (fun i j => decide (val i < val j)) k ≤ k ∧ ∀ j, j ≤ k → val (argBest (fun i j => decide (val i < val j)) k) ≤ val j
  | 0 => ⟨Nat.le_refl _, fun j hj => by have : j = 0 := by omega
                                        subst this; exact Int.le_refl _⟩
  | k + 1 => by
    obtain ⟨h1, h2⟩ := argBest_least (val := val) k
    simp only [argBest]
    by_cases hd : val (k + 1) < val (argBest (fun i j => decide (val i < val j)) k)
    · rw [if_pos (by simpa using hd)]
      refine ⟨Nat.le_refl _, fun j hj => ?_⟩
      by_cases e : j = k + 1
      · subst e; exact Int.le_refl _
      · have := h2 j (by omega); omega
    · rw [if_neg (by simpa using hd)]
      refine ⟨by omega, fun j hj => ?_⟩
      by_cases e : j = k + 1
      · subst e; omega
      · exact h2 j (by omega)
theorem argBest_most {val : Nat → Int} : ∀ k, argBest (fun i j => decide (val i > val j)) k ≤ k ∧ ∀ j, j ≤ k → val j ≤ val (argBest (fun i j => decide (val i > val j)) k)
  | 0 => ⟨Nat.le_refl _, fun j hj => by have : j = 0 := by omega
                                        subst this; exact Int.le_refl _⟩
  | k + 1 => by
    obtain ⟨h1, h2⟩ := argBest_most (val := val) k
    simp only [argBest]
    by_cases hd : val (k + 1) > val (argBest (fun i j => decide (val i > val j)) k)
    · rw [if_pos (by simpa using hd)]
      refine ⟨Nat.le_refl _, fun j hj => ?_⟩
      by_cases e : j = k + 1
      · subst e; exact Int.le_refl _
      · have := h2 j (by omega); omega
    · rw [if_neg (by simpa using hd)]
      refine ⟨by omega, fun j hj => ?_⟩
      by_cases e : j = k + 1
      · subst e; omega
      · exact h2 j (by omega)

def least (vals : List Int) (M : Int) : Prop := M ∈ vals ∧ ∀ a ∈ vals, M ≤ a
def most (vals : List Int) (M : Int) : Prop := M ∈ vals ∧ ∀ a ∈ vals, a ≤ M

theorem w_minS {v : Value} {vals : List Int} {fin : Shared → Prop} {Q : Value → Shared → Prop} (S : IntSrc G A v vals fin s) (hne : vals ≠ []) (h : ∀ M t s', least vals M → fin s' → Q (.int M t) s') :
    wpAny (model G.prog G.w) A (call (.builtin "min") [v]) Q E s := by
  refine call_min_walkS (S _ _ fun I fp wr GG n P St val s₂ W hst hfp hn hP hval hfin => ⟨I, fp, wr, GG, n, P, St, _, rfl, W, hst, hfp, ?_, CmpOf.ints_lt val hP, fun v s' hv hm => ?_⟩)
  · have := List.length_pos_iff.mpr hne; omega
  · obtain ⟨t, rfl⟩ := hP _ _ hv
    have hpos := List.length_pos_iff.mpr hne
    obtain ⟨h1, h2⟩ := argBest_least (val := val) (n - 1)
    refine h _ t s' ⟨List.mem_of_getElem? (hval _ (by omega)), fun a ha => ?_⟩ (hfin s' hm)
    obtain ⟨j, hj⟩ := List.mem_iff_getElem?.mp ha
    have hjl : j < vals.length := (List.getElem?_eq_some_iff.mp hj).1
    have := hval j (by omega)
    rw [hj] at this
    rw [Option.some.inj this]
    exact h2 j (by omega)
theorem w_maxS {v : Value} {vals : List Int} {fin : Shared → Prop} {Q : Value → Shared → Prop} (S : IntSrc G A v vals fin s) (hne : vals ≠ []) (h : ∀ M t s', most vals M → fin s' → Q (.int M t) s') :
    wpAny (model G.prog G.w) A (call (.builtin "max") [v]) Q E s := by
  refine call_max_walkS (S _ _ fun I fp wr GG n P St val s₂ W hst hfp hn hP hval hfin => ⟨I, fp, wr, GG, n, P, St, _, rfl, W, hst, hfp, ?_, CmpOf.ints_gt val hP, fun v s' hv hm => ?_⟩)
  · have := List.length_pos_iff.mpr hne; omega
  · obtain ⟨t, rfl⟩ := hP _ _ hv
    have hpos := List.length_pos_iff.mpr hne
    obtain ⟨h1, h2⟩ := argBest_most (val := val) (n - 1)
    refine h _ t s' ⟨List.mem_of_getElem? (hval _ (by omega)), fun a ha => ?_⟩ (hfin s' hm)
    obtain ⟨j, hj⟩ := List.mem_iff_getElem?.mp ha
    have hjl : j < vals.length := (List.getElem?_eq_some_iff.mp hj).1
    have := hval j (by omega)
    rw [hj] at this
    rw [Option.some.inj this]
    exact h2 j (by omega)
theorem preSum_take {vals : List Int} {val : Nat → Int} (h : ∀ i, i < vals.length → vals[i]? = some (val i)) : ∀ k, k ≤ vals.length → preSum val k = (vals.take k).sum
  | 0, _ => by simp [preSum]
  | k + 1, hk => by
    rw [preSum, preSum_take h k (by omega), List.take_add_one, h k (by omega)]
    simp
theorem w_sumS {v : Value} {vals : List Int} {fin : Shared → Prop} {Q : Value → Shared → Prop} (S : IntSrc G A v vals fin s) (h : ∀ t s', fin s' → Q (.int vals.sum t) s') :
    wpAny (model G.prog G.w) A (call (.builtin "sum") [v]) Q E s := by
  refine call_sum_walkAnyS (S _ _ fun I fp wr GG n P St val s₂ W hst hfp hn hP hval hfin => ⟨I, fp, wr, GG, n, P, St, val, rfl, W, hst, hfp, hP, fun s' t' hm => ?_⟩)
  have e : preSum val n = vals.sum := by rw [hn, preSum_take (by subst hn; exact hval) _ (Nat.le_refl _), List.take_length]
  rw [e]
  exact h t' s' (hfin s' hm)

theorem src_list {l : Addr} {ns : List Int} (hA : A.handled = none) (R : Rep G σ s) (hm : Holds G σ l (isInts ns)) : IntSrc G A (.ref l) ns (fun s' => Rep G σ s') s := by
  intro Q E h
  obtain ⟨ol, hol, vs, hv, hl⟩ := R.cellH hm
  have hL := isLst.lst ⟨ol, hol, hl⟩
  have R₂ := R.push (c := isLstIter l 0) (t := s.toks) ({ cls := .type "list_iterator", data := .fields #[.ref l, .int 0 0] } : Obj) ⟨rfl, rfl⟩
  have hne : l ≠ s.heap.objs.size := Nat.ne_of_lt (Heap.lt_size hol)
  have hnt := (R.none_of (get?_size _)).2.2.1
  refine wpAny_pyIter_list hL (h _ _ _ _ _ _ _ (fun i => (ns[i]?).getD 0) _ (Walks.list (A := A.in1) hA s.heap.objs.size l hne vs.toArray).toS ?_ ?_ (by simp [hv.length]) ?_ ?_ ?_)
  · exact ⟨⟨_, Heap.get?_push_size _ rfl, rfl, rfl⟩, hL.push _⟩
  · intro b hb
    rw [Heap.size_push]
    rcases List.mem_cons.mp hb with rfl | hb
    · exact Nat.lt_succ_self _
    · rw [List.mem_singleton.mp hb]; exact Nat.lt_succ_of_lt (Heap.lt_size hol)
  · intro i v hP
    obtain ⟨n, t, hn, rfl⟩ := ints_back hv (by simpa using hP)
    exact ⟨t, by simp [hn]⟩
  · intro i hi
    have : i < ns.length := by simpa [hv.length] using hi
    simp [this]
  · intro s' hm'
    exact R₂.del (fun b o hb e => hm'.heap b o (by simpa using hb) e) hnt hm'.gens hm'.os hm'.drawn

theorem w_min2 {a b : Int} {t u : Tok} {Q : Value → Shared → Prop} (hA : A.handled = none) (R : Rep G σ s) (h : ∀ t s', Rep G σ s' → Q (.int (min a b) t) s') : wpAny (model G.prog G.w) A (call (.builtin "min") [.int a t, .int b u]) Q E s :=
  min_two_ints hA fun h' tk hk => by
    by_cases e : b < a
    · rw [if_pos e, show b = min a b by omega]; exact h _ _ (R.ext hk)
    · rw [if_neg e, show a = min a b by omega]; exact h _ _ (R.ext hk)
end
end Bl

end
section
open PySem PySem.W PyProof.Rows PySem.Calls
set_option Elab.async false
set_option maxRecDepth 100000
namespace Bl
section
variable {KP : Params → Frag} {G : Gd KP} {A : Around} {E : Value → Shared → Prop} {σ : Led} {s : Shared} {env : Env} {L : Addr} {ρ : List (Str × Option Value)} {sc : Scope} {cl : List (Str × Addr)} {cd : Value} {u : Tok}

/-- an iterator for a generator expression -/
structure Wk (G : Gd KP) (I : Addr) (n : Nat) (P : Nat → Value → Prop) (s : Shared) : Prop where
  nt : I ∉ G.ltabs
  ng : I ∉ G.gtabs
  nb : G.base.get? I = none
  wk : ∃ fp St, (∀ A' : Around, A'.handled = none → Walks G.prog G.w A' I fp [I] n P St) ∧ St 0 s.heap ∧ ∀ b ∈ fp, b ∉ G.gtabs ∧ ∃ o, s.heap.get? b = some o
  ex : ∃ o, s.heap.get? I = some o

/-- all that stands now, taken as what stood at the call -/
theorem freeze {s₄ s₂ : Shared} {I : Addr} (R : Rep G σ s₄) (hI : I ∉ σ.map (·.1)) (hIb : G.base.get? I = none) (hk : ∀ b o, b ≠ I → s₄.heap.get? b = some o → s₂.heap.get? b = some o) :
    ∃ G' : Gd KP, G'.prog = G.prog ∧ G'.w = G.w ∧ Rep G' [] s₂ ∧ (∀ a c, Holds G σ a c → HasB G' a c) ∧ (∀ a c, (∃ o, s₂.heap.get? a = some o ∧ c o) → HasB G' a c) ∧ (∀ σ' s₃, Rep G' σ' s₃ → Keeps s₂ s₃) := by
  have hkb : ∀ b o, G.base.get? b = some o → b ∉ G.gtabs → b ∉ G.ltabs → s₂.heap.get? b = some o := fun b o e h1 h2 => hk b o (fun q => by rw [q, hIb] at e; cases e) (R.keep b o e h1 h2)
  have hns : ∀ {a m}, G.base.Ns a m → a ∉ G.gtabs → a ∉ G.ltabs → s₂.heap.Ns a m := fun hn h1 h2 => Ns_keep hn fun o e => hkb _ o e h1 h2
  refine ⟨{ prog := G.prog, w := G.w, base := s₂.heap, osb := s₂.os, drawnb := s₂.drawn, gensP := fun g => g = s₂.gens, gtabs := [], ltabs := [], mg := G.mg, mb := G.mb,
            inKF := fun a o e => hkb a o (G.inKF a o e) (G.offK a o e).1 (G.offK a o e).2, offK := fun _ _ _ => ⟨nofun, nofun⟩, glob := hns G.glob G.offG.1 G.offG.2, bt := hns G.bt G.offB.1 G.offB.2,
            lim := (let ⟨mc, h1, h2⟩ := G.lim; ⟨mc, hns h1 G.offS.1 G.offS.2, h2⟩), offG := ⟨nofun, nofun⟩, offB := ⟨nofun, nofun⟩, offS := ⟨nofun, nofun⟩, bi := G.bi,
            bmain := (let ⟨bm, ob, h1, h2, h3, h4, h5, h6, h7, h8⟩ := G.bmain; ⟨bm, ob, h1, h2, hkb _ _ h3 h7 h8, h4, h5, h6, nofun, nofun⟩) }, rfl, rfl, ?_, ?_, ?_, ?_⟩
  · exact ⟨fun b o e _ _ => e, nofun, List.nodup_nil, nofun, nofun, nofun, rfl, rfl, rfl⟩
  · intro a c h
    rcases h with h | ⟨o, e, hc, h1, h2⟩
    · obtain ⟨o, e, hc⟩ := R.cells _ h
      exact ⟨o, hk _ _ (fun q => hI (q ▸ List.mem_map_of_mem (f := (·.1)) h)) e, hc, nofun, nofun⟩
    · exact ⟨o, hkb _ _ e h1 h2, hc, nofun, nofun⟩
  · intro a c ⟨o, e, hc⟩
    exact ⟨o, e, hc, nofun, nofun⟩
  · intro σ' s₃ R'
    refine ⟨s₃.heap, s₃.toks, ?_, fun b o e => R'.keep b o e nofun nofun⟩
    have h1 := R'.os
    have h2 := R'.drawn
    have h3 := R'.gens
    obtain ⟨h, g, d, t, o⟩ := s₃
    simp only at h1 h2 h3
    subst h1 h2 h3
    rfl

theorem wk_list {l : Addr} {ns : List Int} {Q : Value → Shared → Prop} (R : Rep G σ s) (hm : Holds G σ l (isInts ns))
    (h : ∀ I s', Rep G ((I, isLstIter l 0) :: σ) s' → Wk G I ns.length (fun i v => ∃ n t, ns[i]? = some n ∧ v = .int n t) s' → Q (.ref I) s') : wpAny (model G.prog G.w) A (pyIter (.ref l)) Q E s := by
  obtain ⟨ol, hol, vs, hv, hl⟩ := R.cellH hm
  have hL := isLst.lst ⟨ol, hol, hl⟩
  have hne : l ≠ s.heap.objs.size := Nat.ne_of_lt (Heap.lt_size hol)
  have hn := R.none_of (get?_size _)
  refine wpAny_pyIter_list hL (h _ _ (R.push (t := s.toks) _ ⟨rfl, rfl⟩) ⟨hn.2.2.1, hn.2.1, hn.1, ⟨[s.heap.objs.size, l], fun i h => h.IsListIter s.heap.objs.size l i ∧ h.IsList l vs.toArray, fun A' hA => ?_, ?_, ?_⟩, ⟨_, Heap.get?_push_size _ rfl⟩⟩)
  · have W := Walks.list (prog := G.prog) (w := G.w) hA s.heap.objs.size l hne vs.toArray
    have hsz : vs.toArray.size = ns.length := by simp [hv.length]
    rw [hsz] at W
    exact ⟨W.sub, W.frame, fun i s Q E hi st hQ => W.item i s Q E hi st fun v h' tk hP => hQ v h' tk (ints_back hv (by simpa using hP)), W.done, W.self⟩
  · exact ⟨⟨_, Heap.get?_push_size _ rfl, rfl, rfl⟩, hL.push _⟩
  · intro b hb
    rcases List.mem_cons.mp hb with rfl | hb
    · exact ⟨hn.2.1, _, Heap.get?_push_size _ rfl⟩
    · rw [List.mem_singleton.mp hb]
      exact ⟨hm.elim (fun h => (R.new _ h).2) fun ⟨_, _, _, h, _⟩ => h, _, Heap.get?_push_of_some _ hol⟩
theorem wk_range {r : Addr} {a b c : Int} {n : Nat} {Q : Value → Shared → Prop} (R : Rep G σ s) (hm : Holds G σ r (isRng a b c)) (hsz : Builtin.Range.rangeSize a b c = n) (hsm : Builtin.Range.small a b c = true)
    (h : ∀ I s', Rep G ((I, isRngIter a n c) :: σ) s' → Wk G I n (fun i v => ∃ t, v = .int (a + i * c) t) s' → Q (.ref I) s') : wpAny (model G.prog G.w) A (pyIter (.ref r)) Q E s := by
  obtain ⟨o, h1, t, u, v, rfl⟩ := R.cellH hm
  have hn := R.none_of (get?_size _)
  refine wpAny_pyIter_range h1 hsm ?_
  rw [hsz]
  refine h _ _ (R.push (c := isRngIter a n c) (t := s.toks) _ rfl) ⟨hn.2.2.1, hn.2.1, hn.1, ⟨[s.heap.objs.size], _, fun A' hA => Walks.range (prog := G.prog) (w := G.w) hA s.heap.objs.size a c n, ?_, ?_⟩, ⟨_, Heap.get?_push_size _ rfl⟩⟩
  · show _ = _
    rw [Heap.get?_push_size _ rfl]; simp
  · intro b hb
    rw [List.mem_singleton.mp hb]; exact ⟨hn.2.1, _, Heap.get?_push_size _ rfl⟩

/-- one turn of a generator expression -/
def GenTurn (G : Gd KP) (A : Around) (σ : Led) (elt : Expr) (x : Str) (ifs : List Expr) (scope : Scope) (cl' : List (Str × Addr)) (P : Nat → Value → Prop) (pz : Nat → Bool) (val : Nat → Int) : Prop :=
  ∀ (G' : Gd KP) (A' : Around) (E' : Value → Shared → Prop) (i : Nat) (v : Value) (C : Addr) (cenv : Env) (s₃ : Shared) (cd' : Value), G'.w = G.w → A'.handled = none → A'.depth ≤ A.depth + 1 → A'.units ≤ A.units + 8 → P i v → EnvIs cenv scope C cl' cd' → HasB G' C (hasName x v) →
    (∀ a c, Holds G σ a c → HasB G' a c) → Rep G' [] s₃ →
    wpAny (model G'.prog G'.w) A' (testsOf ifs cenv) (fun ok s₄ => ok = pz i ∧ ∃ σ', Rep G' σ' s₄) E' s₃ ∧
    (pz i = true → wpAny (model G'.prog G'.w) A' (eval elt cenv) (fun y s₄ => (∃ t, y = .int (val i) t) ∧ ∃ σ', Rep G' σ' s₄) E' s₃)

/-- code that stands for a generator expression -/
theorem w_genexprCode {env : Env} {c T : Addr} {pos : Pos} {q : Str} {scope : Scope} {Q : Value → Shared → Prop} (R : Rep G σ s) (hc : env.code = .ref c) (hT : T ∈ G.gtabs) (hcode : codeHdIn G.K c T = true)
    (h : ∀ v h' tk, Heap.ExtBut T s.heap h' → Rep G σ { s with heap := h', toks := tk } → Q v { s with heap := h', toks := tk }) :
    wpAny (model G.prog G.w) A (genexprCode env pos q scope) Q E s := by
  have hcd := codeHd_of_K R.inK hcode
  obtain ⟨ps, hps, htr⟩ := R.gt T hT
  have hok := hcd.code hps htr
  have htab : s.heap.TableAt c T ps := by
    refine ⟨?_, hps⟩
    unfold codeHdIn at hcode
    split at hcode
    · rename_i vs _ hk
      simp only [Bool.and_eq_true] at hcode
      obtain ⟨⟨⟨⟨⟨e1, _⟩, _⟩, _⟩, _⟩, _⟩ := hcode
      split at e1
      · rename_i P' h11
        have hP : P' = T := beq_iff_eq.mp e1
        subst hP
        exact ⟨_, vs, R.inK _ _ hk, rfl, rfl, h11⟩
      · cases e1
    · cases hcode
  cases hf : codeAmong pos ps.toList with
  | some c' =>
    have h0 : ({ s with heap := s.heap, toks := s.toks } : Shared) = s := rfl
    exact wpAny_genexprCode_hit hc hok hf (h c' s.heap s.toks (fun _ _ _ e => e) R)
  | none =>
    refine wpAny_genexprCodeX hc hok htab hf fun c' h' tk hx _ _ hok' _ htab' _ => h _ _ _ hx ?_
    have hTσ : ∀ p ∈ σ, p.1 ≠ T := fun p hp q => (R.new p hp).2 (q ▸ hT)
    refine ⟨fun b o e h1 h2 => hx b o (fun q => h1 (q ▸ hT)) (R.keep b o e h1 h2), fun p hp => ?_, R.nd, R.new, fun P' hP' => ?_, fun P' hP' => ?_, R.os, R.drawn, R.gens⟩
    · obtain ⟨o, e, hc⟩ := R.cells p hp
      exact ⟨o, hx _ _ (hTσ p hp) e, hc⟩
    · by_cases q : P' = T
      · subst q
        obtain ⟨_, _, _, _, _, _, _, _, _, _, _, _, _, _, _, _, _, _, _, htr', _⟩ := hok'
        exact ⟨_, htab'.2, htr'⟩
      · obtain ⟨ps₁, e, t⟩ := R.gt P' hP'
        exact ⟨ps₁, hx _ _ q e, t⟩
    · by_cases q : P' = T
      · subst q; exact ⟨_, htab'.2⟩
      · obtain ⟨o, e⟩ := R.lt P' hP'
        exact ⟨o, hx _ _ q e⟩

theorem w_gen {elt iter : Expr} {x : Str} {px pos : Pos} {ifs : List Expr} {scope : Scope} {cl' : List (Str × Addr)} {c T : Addr} {Q : Value → Shared → Prop} (pz : Nat → Bool) (val : Nat → Int)
    (hA : A.handled = none) (he : EnvIs env sc L cl (.ref c)) (hroom : A.depth < recursionLimit) (hclos : closOf cl scope.names [] = some cl') (hT : T ∈ G.gtabs) (hgp : G.gensP = AllBare)
    (h : wpAny (model G.prog G.w) A (eval iter env) (fun xv s₁ => wpAny (model G.prog G.w) A (pyIter xv) (fun itv s₂ => ∃ I c0 n P σ, itv = .ref I ∧ Rep G ((I, c0) :: σ) s₂ ∧ Wk G I n P s₂ ∧ GenTurn G A σ elt x ifs scope cl' P pz val ∧
      ∀ a s₅, IntSrc G A (.ref a) (((List.range n).filter pz).map val) (fun s' => Rep G σ s') s₅ → Rep G σ s₅ → Q (.ref a) s₅) E s₁) E s)
    (hcode : codeHdIn G.K c T = true := by kernel_rfl)
    (hco : scope.isCoroutine = false := by kernel_rfl) (hcell : (scope.names.all fun p => p.2 != .cell) = true := by kernel_rfl) (h0 : scope.names.lookup (".0" : Str) = some NameKind.local := by kernel_rfl)
    (hx : scope.names.lookup x = some .local := by kernel_rfl) (hkind : scope.kind = .function := by kernel_rfl) (hs : ∀ x, genFold iter env x = pure x := by intro _; rfl) :
    wpAny (model G.prog G.w) A (eval (.GeneratorExp elt [⟨.Name x px, iter, ifs, 0⟩] scope pos) env) Q E s := by
  refine wpAny_GeneratorExp_walksQD hA hco (he.clos hclos) (fun y hy => by have := List.all_eq_true.mp hcell y hy; simpa using this) h0 hx hkind hroom (wpAny_mono h (fun xv s₁ h₁ => wpAny_mono h₁ (fun itv s₂ h₂ => ?_) fun _ _ e => e) fun _ _ e => e) hs
  obtain ⟨I, c0, n, P, σ, rfl, R, W, turn, done⟩ := h₂
  refine ⟨R.lim, ?_⟩
  refine w_genexprCode R he.code hT hcode fun code h₃ tk hx₃ R₃ => ?_
  have R' : Rep G σ { s₂ with heap := h₃, toks := tk } := R₃.drop1
  have hIσ : I ∉ σ.map (·.1) := (List.nodup_cons.mp (show (I :: σ.map (·.1)).Nodup from R.nd)).1
  obtain ⟨bm, ob, hb1, hb2, hb3, hb4, hb5, hb6, hb7, hb8⟩ := G.bmain
  obtain ⟨fp, St₀, hW, hst, hfp⟩ := W.wk
  have hk₃ : ∀ b ∈ fp, ∀ o, s₂.heap.get? b = some o → h₃.get? b = some o := fun b hb o e => hx₃ b o (fun q => (hfp b hb).1 (q ▸ hT)) e
  have hst₃ : St₀ 0 h₃ := (hW A hA).frame _ _ _ hst hk₃
  have hfp₃ : ∀ b ∈ fp, b < h₃.objs.size := fun b hb => let ⟨_, o, e⟩ := hfp b hb; Heap.lt_size (hk₃ b hb o e)
  refine wpAny_builtinsFor (he.globals ▸ R'.glob) hb1 hb2 (R'.keep _ _ hb3 hb7 hb8) hb4 hb5 hb6 ?_
  have hIS : I ≠ cStatics := fun q => by
    obtain ⟨_, ⟨o, _, _, ho, _⟩, _⟩ := G.lim
    rw [← q, W.nb] at ho; cases ho
  refine ⟨I, fp, [I], n, P, St₀, pz, fun i y => ∃ t, y = .int (val i) t, rfl, hW, hst₃, hfp₃, R'.lim, (fun hm => hIS (List.mem_singleton.mp hm).symm), fun href hhref => ?_, fun a h₅ tk₅ gs hgb hag hsz₅ hk₅ WS hat => ?_⟩
  · have fz : ∀ (s₃ : Shared) (m₂ : Str → Option Value) (v : Value), s₃.heap.Ns h₃.objs.size m₂ → m₂ x = some v → (∀ b ∈ List.range h₃.objs.size, b ∉ [I] → ∀ o, href.get? b = some o → s₃.heap.get? b = some o) →
        ∃ G' : Gd KP, G'.prog = G.prog ∧ G'.w = G.w ∧ Rep G' [] s₃ ∧ (∀ a c, Holds G σ a c → HasB G' a c) ∧ HasB G' h₃.objs.size (hasName x v) ∧ (∀ σ' s', Rep G' σ' s' → Keeps s₃ s') := by
      intro s₃ m₂ v hn hm hk
      obtain ⟨G', h1, h2, h3, h4, h5, h6⟩ := freeze (s₂ := s₃) (I := I) R' hIσ W.nb fun b o hb e => hk b (List.mem_range.mpr (Heap.lt_size e)) (fun hm => hb (List.mem_singleton.mp hm)) o (hhref b o e)
      refine ⟨G', h1, h2, h3, h4, h5 _ _ ?_, h6⟩
      obtain ⟨o, es, ep, ho, e1, e2, e3⟩ := hn
      exact ⟨o, ho, es, ep, e1, e2, (e3 x).trans hm⟩
    have hen : EnvIs (genEnv scope cl' h₃.objs.size code builtinsNs env) scope h₃.objs.size cl' code := ⟨rfl, rfl, he.globals, rfl, rfl, rfl, hkind⟩
    refine ⟨fun A' E' i v s₃ m₂ hA' hD hU hP hn hm hk => ?_, fun A' E' i v s₃ m₂ hA' hD hU hP hp hn hm hk => ?_⟩
    · obtain ⟨G', h1, h2, h3, h4, h5, h6⟩ := fz s₃ m₂ v hn hm hk
      have t := (turn G' A' E' i v _ _ s₃ code h2 hA' hD hU hP hen h5 h4 h3).1
      rw [h1, h2] at t
      exact wpAny_mono t (fun ok s₄ ⟨e, σ', r⟩ => ⟨e, h6 _ _ r⟩) fun _ _ e => e
    · obtain ⟨G', h1, h2, h3, h4, h5, h6⟩ := fz s₃ m₂ v hn hm hk
      have t := (turn G' A' E' i v _ _ s₃ code h2 hA' hD hU hP hen h5 h4 h3).2 hp
      rw [h1, h2] at t
      exact wpAny_mono t (fun ok s₄ ⟨e, σ', r⟩ => ⟨e, h6 _ _ r⟩) fun _ _ e => e
  · have hgens : ∀ y ∈ s₂.gens.push gs, y.bare = true := by
      intro y hy
      rcases Array.mem_push.mp hy with hy | rfl
      · have : AllBare s₂.gens := hgp ▸ R.gens
        exact this y hy
      · exact hgb
    have R₅ : Rep G σ { s₂ with heap := h₅, toks := tk₅, gens := s₂.gens.push gs } := by
      have := R'.ext (s' := { s₂ with heap := h₅, toks := tk₅ }) hk₅
      exact { this with gens := hgp ▸ hgens }
    refine done a _ ?_ R₅
    intro Q' E' hQ'
    refine ((WS.of_in1).of_in1.of_in1).self 0 _ _ _ hat (hQ' a _ _ _ _ _ _ (fun j => val ((passing pz n 0).getD j 0)) _ ((WS.of_in1).of_in1.of_in1) hat (fun b hb => ?_) ?_ (fun j v ⟨i, hj, t, hv⟩ => ⟨t, ?_⟩) (fun j hj => ?_) fun s' mv => ?_)
    · show b < h₅.objs.size
      rw [hsz₅]
      rcases List.mem_cons.mp hb with rfl | hb
      · exact Nat.lt_succ_self _
      · rcases List.mem_cons.mp hb with rfl | hb
        · exact Nat.lt_succ_of_lt hag
        · exact Nat.lt_succ_of_lt (Nat.lt_trans (List.mem_range.mp hb) hag)
    · simp [passing]
    · rw [hv]; simp [List.getD_eq_getElem?_getD, hj]
    · simp only [List.getElem?_map, List.getD_eq_getElem?_getD]
      have : (List.filter pz (List.range n)) = passing pz n 0 := by simp [passing]
      rw [this]
      rw [List.getElem?_eq_getElem hj]; rfl
    · have hkm : ∀ b o, h₃.get? b = some o → b ≠ I → s'.heap.get? b = some o := fun b o e hb => mv.heap b o (fun hm => by
        rcases List.mem_cons.mp hm with q | hm
        · exact absurd (Heap.lt_size e) (by rw [q]; exact Nat.lt_irrefl _)
        · exact hb (List.mem_singleton.mp hm)) (hk₅ b o e)
      refine ⟨fun b o e h1 h2 => hkm b o (R'.keep b o e h1 h2) (fun q => by rw [q, W.nb] at e; cases e), fun p hp => ?_, R'.nd, R'.new, fun P' hP' => ?_, fun P' hP' => ?_, mv.os.trans R'.os, mv.drawn.trans R'.drawn, ?_⟩
      · obtain ⟨o, e, hc⟩ := R'.cells p hp
        exact ⟨o, hkm _ _ e (fun q => hIσ (q ▸ List.mem_map_of_mem (f := (·.1)) hp)), hc⟩
      · obtain ⟨ps₁, e, t⟩ := R'.gt P' hP'
        exact ⟨ps₁, hkm _ _ e (fun q => W.ng (q ▸ hP')), t⟩
      · obtain ⟨o, e⟩ := R'.lt P' hP'
        exact ⟨o, hkm _ _ e (fun q => W.nt (q ▸ hP'))⟩
      · rw [hgp]; exact GenOnlyQ.bare mv.gens hgens
end
end Bl

end
section
open PySem PySem.W PyProof.Rows PySem.Calls
set_option Elab.async false
set_option maxRecDepth 100000
set_option linter.unusedVariables false
namespace Bl
section
variable {KP : Params → Frag} {G : Gd KP} {A : Around} {E : Value → Shared → Prop} {σ τ : Led} {s : Shared} {env : Env} {L : Addr} {ρ : List (Str × Option Value)} {sc : Scope} {cl : List (Str × Addr)} {cd : Value} {u t : Tok} {a b : Int}

/-! entries picked out -/
inductive Take : Led → Addr → Cell → Led → Prop where
  | head {a : Addr} {c : Cell} {r : Led} : Take ((a, c) :: r) a c r
  | tail {p : Addr × Cell} {a : Addr} {c : Cell} {r r' : Led} : Take r a c r' → Take (p :: r) a c (p :: r')
theorem Take.perm {a : Addr} {c : Cell} {r : Led} (h : Take σ a c r) : σ.Perm ((a, c) :: r) := by
  induction h with
  | head => exact .refl _
  | tail _ ih => exact (List.Perm.cons _ ih).trans (List.Perm.swap _ _ _)
inductive Sel : Led → Led → Prop where
  | refl {σ : Led} : Sel σ σ
  | drop {p : Addr × Cell} {σ τ : Led} : Sel σ τ → Sel (p :: σ) τ
  | pick {σ r τ : Led} {a : Addr} {c : Cell} : Take σ a c r → Sel r τ → Sel σ ((a, c) :: τ)
theorem Rep.perm (R : Rep G σ s) (h : σ.Perm τ) : Rep G τ s := R.sub (fun p hp => h.mem_iff.mpr hp) ((h.map (·.1)).nodup_iff.mp R.nd)
theorem Sel.subperm (h : Sel σ τ) : ∃ r, σ.Perm (τ ++ r) := by
  induction h with
  | @refl σ => exact ⟨[], by simp⟩
  | @drop p σ τ _ ih => obtain ⟨r, h⟩ := ih; exact ⟨p :: r, (List.Perm.cons _ h).trans List.perm_middle.symm⟩
  | @pick σ r τ a c ht _ ih => obtain ⟨r', h⟩ := ih; exact ⟨r', ht.perm.trans (List.Perm.cons _ h)⟩
theorem Rep.sel (R : Rep G σ s) (h : Sel σ τ) : Rep G τ s := by
  obtain ⟨r, hp⟩ := h.subperm
  have R' := R.perm hp
  refine R'.sub (fun p hp => List.mem_append_left _ hp) ?_
  have := R'.nd
  rw [List.map_append] at this
  exact (List.nodup_append.mp this).1

/-! ints -/
variable {Q : Value → Shared → Prop}
theorem w_mul (R : Rep G σ s) (hm : IntMulOk a b) (h : ∀ t s', Rep G σ s' → Q (.int (a * b) t) s') : wpAny (model G.prog G.w) A (binaryOp .Mult (.int a t) (.int b u)) Q E s := mul_int (h _ _ R.toks) hm
theorem w_imul (R : Rep G σ s) (hm : IntMulOk a b) (h : ∀ t s', Rep G σ s' → Q (.int (a * b) t) s') : wpAny (model G.prog G.w) A (inplaceOp .Mult (.int a t) (.int b u)) Q E s := imul_int (h _ _ R.toks) hm
theorem w_fdiv (R : Rep G σ s) (hb : b ≠ 0) (hl : b.natAbs.log2 < 9000) (h : ∀ t s', Rep G σ s' → Q (.int (a.fdiv b) t) s') : wpAny (model G.prog G.w) A (binaryOp .FloorDiv (.int a t) (.int b u)) Q E s :=
  floordiv_int hb (h _ _ R.toks) (.inl (PyProof.noPylong_of_log2 hl))
theorem w_and (R : Rep G σ s) (h : ∀ t s', Rep G σ s' → Q (.int (Builtin.bitAnd a b) t) s') : wpAny (model G.prog G.w) A (binaryOp .BitAnd (.int a t) (.int b u)) Q E s := and_int (h _ _ R.toks)
theorem w_or (R : Rep G σ s) (h : ∀ t s', Rep G σ s' → Q (.int (Builtin.bitOr a b) t) s') : wpAny (model G.prog G.w) A (binaryOp .BitOr (.int a t) (.int b u)) Q E s := or_int (h _ _ R.toks)
theorem w_shl (R : Rep G σ s) (hn : 0 ≤ b) (hsz : (Builtin.Int.intBits a : Int) + b ≤ 2 ^ 27) (h : ∀ t s', Rep G σ s' → Q (.int (a * 2 ^ b.toNat) t) s') : wpAny (model G.prog G.w) A (binaryOp .LShift (.int a t) (.int b u)) Q E s := lshift_int hn hsz (h _ _ R.toks)
theorem w_pow (R : Rep G σ s) (hn : 0 ≤ b) (hsz : (Builtin.Int.intBits a : Int) * b ≤ 2 ^ 27) (h : ∀ t s', Rep G σ s' → Q (.int (a ^ b.toNat) t) s') : wpAny (model G.prog G.w) A (binaryOp .Pow (.int a t) (.int b u)) Q E s := pow_int hn hsz (h _ _ R.toks)
theorem w_neg (R : Rep G σ s) (h : ∀ t s', Rep G σ s' → Q (.int (-a) t) s') : wpAny (model G.prog G.w) A (unaryOp .USub (.int a t)) Q E s := neg_int (h _ _ R.toks)
theorem w_blen (R : Rep G σ s) (h : ∀ t s', Rep G σ s' → Q (.int (Builtin.Int.intBits a) t) s') : wpAny (model G.prog G.w) A (call (.builtin "int.bit_length") [.int a t]) Q E s := call_int_bit_length (h _ _ R.toks)

/-! a slot's value called -/
/-! the library's rules, with side conditions that no transparency hides -/
section
variable {M : Model} {Q : Flow → Shared → Prop}
theorem x_AssignName {x : Str} {pos' : Pos} {value : Expr} {pos : Pos} (h : wpAny M A (eval value env) (fun v s₁ => wpAny M A (storeName env x v) (fun _ => Q Flow.next) E s₁) E s)
    (hs : swapsWith value (some (Expr.Name x pos')) pos.line env = pure false := by with_unfolding_all rfl) : wpAny M A (exec (Stmt.Assign [Expr.Name x pos'] value pos) env) Q E s := wpAny_Assign_Name h hs
theorem x_AssignAttr {o : Expr} {attr : Str} {pos' : Pos} {value : Expr} {pos : Pos} (h : wpAny M A (eval value env) (fun v s₁ => wpAny M A (eval o env) (fun ov s₂ => wpAny M A (setAttr ov attr v) (fun _ => Q Flow.next) E s₂) E s₁) E s)
    (hs : swapsWith value (some (o.Attribute attr pos')) pos.line env = pure false := by with_unfolding_all rfl) : wpAny M A (exec (Stmt.Assign [o.Attribute attr pos'] value pos) env) Q E s := plainObj_wpAny_Assign_Attribute h hs
theorem x_AssignSub {o i : Expr} {pos' : Pos} {value : Expr} {pos : Pos} (h : wpAny M A (eval value env) (fun v s₁ => wpAny M A (eval o env) (fun ov s₂ => wpAny M A (eval i env) (fun iv s₃ => wpAny M A (setItem ov iv v) (fun _ => Q Flow.next) E s₃) E s₂) E s₁) E s)
    (hs : swapsWith value (some (o.Subscript i pos')) pos.line env = pure false := by with_unfolding_all rfl) : wpAny M A (exec (Stmt.Assign [o.Subscript i pos'] value pos) env) Q E s := wpAny_Assign_Subscript h hs
theorem x_AugSub {o i value : Expr} {tpos pos : Pos} {op : Operator} (h : wpAny M A (eval o env) (fun ov s₁ => wpAny M A (eval i env) (fun iv s₂ => wpAny M A (getItem ov iv) (fun old s₃ => wpAny M A (eval value env) (fun v s₄ => wpAny M A (inplaceOp op old v)
      (fun new s₅ => wpAny M A (setItem ov iv new) (fun _ => Q Flow.next) E s₅) E s₄) E s₃) E s₂) E s₁) E s)
    (hs : ∀ ov iv new, augStore i ov iv new = (do holding [new, ov, iv] (setItem ov iv new); release [new, ov, iv] []; pure Flow.next) := by intro _ _ _; with_unfolding_all rfl) : wpAny M A (exec (Stmt.AugAssign (o.Subscript i tpos) op value pos) env) Q E s := wpAny_AugAssign_SubscriptAny h hs
theorem x_For {target iter : Expr} {body orelse : List Stmt} {pos : Pos} (h : wpAny M A (eval iter env) (fun x s₁ => wpAny M A (pyIter x) (fun it s₂ => codeAny M A (Code.forLoop target it body orelse env)
      (fun r s' => match r with | Except.ok f => Q f s' | Except.error e => cameBackBy M A env E e s') s₂) E s₁) E s)
    (hs : ∀ x, foldedSetIterable iter env x = pure x := by intro _; with_unfolding_all rfl) : wpAny M A (exec (Stmt.For target iter body orelse pos) env) Q E s := wpAny_For h hs
theorem x_Expr {e : Expr} {pos : Pos} (h : wpAny M A (eval e env) (fun v s' => match v with | .ref _ => False | _ => Q Flow.next s') E s) (hi : interactive env = false := by with_unfolding_all rfl)
    (hs : swapsWith e none pos.line env = pure false := by with_unfolding_all rfl) : wpAny M A (exec (Stmt.Expr e pos) env) Q E s := wpAny_Expr h hi hs
end
section
variable {M : Model} {Q : Value → Shared → Prop} {Q' : Bool → Shared → Prop}
theorem x_Attr {value : Expr} {attr : Str} {pos : Pos} (h : wpAny (model G.prog G.w) A (eval value env) (fun o s₁ => wpAny (model G.prog G.w) A (getAttr o attr true) Q E s₁) E s)
    (he : eval (value.Attribute attr pos) env = (do let o ← eval value env; standAt pos.atName; let r ← holding [o] (getAttr o attr true); letTemporaryGo value o r; pure r) := by with_unfolding_all rfl) : wpAny (model G.prog G.w) A (eval (value.Attribute attr pos) env) Q E s := Attribute_any_ h he
theorem x_Cmp {l : Expr} {op : CmpOp} {r : Expr} {pos : Pos} (h : wpAny M A (eval l env) (fun a s₁ => wpAny M A (eval r env) (fun b s₂ => wpAny M A (compareOp op a b) Q E s₂) E s₁) E s)
    (hb : behindInMarks op r = false := by with_unfolding_all rfl) : wpAny M A (eval (l.Compare [op] [r] pos) env) Q E s := wpAny_Compare1 h hb
theorem x_TCmp {l : Expr} {op : CmpOp} {r : Expr} {pos : Pos} {whole : Sem Value} (h : wpAny M A (eval l env) (fun a s₁ => wpAny M A (eval r env) (fun b s₂ => wpAny M A (compareOp op a b) (fun c s₃ => wpAny M A (truthy c) Q' E s₃) E s₂) E s₁) E s)
    (hb : behindInMarks op r = false := by with_unfolding_all rfl) : wpAny M A (PySem.isTrue (l.Compare [op] [r] pos) env whole) Q' E s := wpAny_isTrue_Compare1 h hb
theorem x_TPlain {e : Expr} {whole : Sem Value} (h : wpAny M A whole (fun v s₁ => wpAny M A (truthy v) Q' E s₁) E s)
    (he : PySem.isTrue e env whole = (do let v ← whole; standAt e.pos; holding [v] (truthy v)) := by with_unfolding_all rfl) : wpAny M A (PySem.isTrue e env whole) Q' E s := isTrue_plain h he
theorem x_More {e : Expr} {rest : List Expr} {pos : Pos} {Q : List Value → Shared → Prop}
    (h : wpAny M A (eval e env) (fun v s₁ => wpAny M A (spliced (backTo pos (starEach rest env))) (fun vs s₂ => Q (v :: vs) s₂) E s₁) E s)
    (he : starEach (e :: rest) env = (false, eval e env) :: starEach rest env := by with_unfolding_all rfl) : wpAny M A (spliced (backTo pos (starEach (e :: rest) env))) Q E s := spliced_more h he
theorem x_cwB {id : String} {first : List Value} {e : Expr} {rest : List Expr} {pos : Pos}
    (h : wpAny (model G.prog G.w) A (spliced (backTo pos (starEach (e :: rest) env))) (fun vs s₁ => wpAny (model G.prog G.w) A (call (.builtin id) (first ++ vs)) Q E s₁) E s)
    (hplain : (backTo pos (starEach (e :: rest) env)).any (·.1) = false := by with_unfolding_all rfl) (he : starEach (e :: rest) env = (false, eval e env) :: starEach rest env := by with_unfolding_all rfl) :
    wpAny (model G.prog G.w) A (callWith pos (.builtin id) first (backTo pos (starEach (e :: rest) env)) (backToKw pos (keywordEach [] env))) Q E s := w_cwB h hplain he
theorem x_cwT {T : String} {first : List Value} {e : Expr} {rest : List Expr} {pos : Pos}
    (h : wpAny (model G.prog G.w) A (spliced (backTo pos (starEach (e :: rest) env))) (fun vs s₁ => wpAny (model G.prog G.w) A (call (.type T) (first ++ vs)) Q E s₁) E s)
    (hplain : (backTo pos (starEach (e :: rest) env)).any (·.1) = false := by with_unfolding_all rfl) (he : starEach (e :: rest) env = (false, eval e env) :: starEach rest env := by with_unfolding_all rfl) :
    wpAny (model G.prog G.w) A (callWith pos (.type T) first (backTo pos (starEach (e :: rest) env)) (backToKw pos (keywordEach [] env))) Q E s := w_cwT h hplain he
theorem x_cwK {f : Addr} {first : List Value} {e : Expr} {rest : List Expr} {kws : List Keyword} {pos : Pos}
    (h : wpAny (model G.prog G.w) A (spliced (backTo pos (starEach (e :: rest) env))) (fun vs s₁ => wpAny (model G.prog G.w) A (evalAll ((backToKw pos (keywordEach kws env)).map (·.2)))
      (fun ks s₂ => (∃ σ', Rep G σ' s₂) ∧ wpAny (model G.prog G.w) A (call (.ref f) (first ++ vs) (((backToKw pos (keywordEach kws env)).filterMap (·.1)).zip ks)) Q E s₂) E s₁) E s)
    (hk : keepIn G.K (.ref f) = true := by kernel_rfl)
    (hall : (backToKw pos (keywordEach kws env)).all (·.1.isSome) = true := by with_unfolding_all rfl)
    (hplain : ((backTo pos (starEach (e :: rest) env)).any (·.1) || (backToKw pos (keywordEach kws env)).any (·.1.isNone)) = false := by with_unfolding_all rfl) (he : starEach (e :: rest) env = (false, eval e env) :: starEach rest env := by with_unfolding_all rfl) :
    wpAny (model G.prog G.w) A (callWith pos (.ref f) first (backTo pos (starEach (e :: rest) env)) (backToKw pos (keywordEach kws env))) Q E s := w_cwK hk h hall hplain he
theorem x_cwK0 {f : Addr} {first : List Value} {kws : List Keyword} {pos : Pos}
    (h : wpAny (model G.prog G.w) A (evalAll ((backToKw pos (keywordEach kws env)).map (·.2)))
      (fun ks s₂ => (∃ σ', Rep G σ' s₂) ∧ wpAny (model G.prog G.w) A (call (.ref f) (first ++ []) (((backToKw pos (keywordEach kws env)).filterMap (·.1)).zip ks)) Q E s₂) E s)
    (hk : keepIn G.K (.ref f) = true := by kernel_rfl)
    (hall : (backToKw pos (keywordEach kws env)).all (·.1.isSome) = true := by with_unfolding_all rfl)
    (hplain : ((backTo pos (starEach [] env)).any (·.1) || (backToKw pos (keywordEach kws env)).any (·.1.isNone)) = false := by with_unfolding_all rfl) :
    wpAny (model G.prog G.w) A (callWith pos (.ref f) first (backTo pos (starEach [] env)) (backToKw pos (keywordEach kws env))) Q E s := w_cwK0 hk h hall hplain
end
theorem x_range1 {args : List Value} {n : Int} {Q : Value → Shared → Prop} (R : Rep G σ s) (h : ∀ r s', Rep G ((r, isRng 0 n 1) :: σ) s' → Q (.ref r) s') (ha : args = [.int n t] := by with_unfolding_all rfl) : wpAny (model G.prog G.w) A (call (.type "range") args) Q E s := by subst ha; exact w_range1 R h
theorem x_range2 {args : List Value} {a n : Int} {Q : Value → Shared → Prop} (R : Rep G σ s) (h : ∀ r s', Rep G ((r, isRng a n 1) :: σ) s' → Q (.ref r) s') (ha : args = [.int a t, .int n u] := by with_unfolding_all rfl) : wpAny (model G.prog G.w) A (call (.type "range") args) Q E s := by subst ha; exact w_range2 R h
theorem x_blen {args : List Value} {Q : Value → Shared → Prop} (R : Rep G σ s) (h : ∀ t s', Rep G σ s' → Q (.int (Builtin.Int.intBits a) t) s') (ha : args = [.int a t] := by with_unfolding_all rfl) : wpAny (model G.prog G.w) A (call (.builtin "int.bit_length") args) Q E s := by subst ha; exact w_blen R h

def usualOk (K : Frag) (C : Addr) (name : Str) : Bool := match findIn K (.ref C) name with
  | some (some a) => (typeIn K a).any fun t => t != .type "function" && t != .type "method_descriptor" && t != .type "wrapper_descriptor"
  | _ => false
theorem w_usual {x C dx : Addr} {svs : List SV} {name : Str} {pl : Sem Bool} {Q : Value × List Value → Shared → Prop} (R : Rep G σ s) (hm : Holds G σ x (obj C dx svs)) (hdx : Holds G σ dx isAny)
    (hg : plainGet G.K C name = true) (hu : usualOk G.K C name = true) (h : wpAny (model G.prog G.w) A (getAttr (.ref x) name) (fun v => Q (v, [])) E s) : wpAny (model G.prog G.w) A (getMethod (.ref x) name pl) Q E s := by
  obtain ⟨od', hod, rfl⟩ := R.cellH hdx
  obtain ⟨o, ho, sl, rfl, hok⟩ := R.cellH hm
  unfold usualOk at hu
  split at hu
  · rename_i a ha
    exact method_usual R.inK (instAt ho hod) (plainGet_of hg).1 (plainGet_of hg).2 ha hu h
  · cases hu
end
end Bl

end
section
open PySem PySem.W PyProof.Rows PySem.Calls PyProof
set_option Elab.async false
set_option maxRecDepth 100000
set_option linter.unusedVariables false
namespace Bl
section
variable {KP : Params → Frag} {G : Gd KP} {A : Around} {E : Value → Shared → Prop} {σ τ : Led} {s : Shared} {env : Env} {L : Addr} {ρ : List (Str × Option Value)} {sc : Scope} {cl : List (Str × Addr)} {cd : Value} {u t : Tok} {a b : Int}

theorem dd {A : Around} {env : Env} : (A.deeper env).depth = A.depth + 1 := rfl
/-- a code object of that name -/
def isCodeR (q : Str) : Cell := fun o => ∃ vs t, o.data = .fields vs ∧ vs[1]? = some (.str q t)
theorem isCodeR.rec {h : Heap} {c : Addr} {q : Str} (x : ∃ o, h.get? c = some o ∧ isCodeR q o) : h.CodeRec (.ref c) q := let ⟨o, ho, vs, t, h1, h2⟩ := x; ⟨c, o, vs, t, rfl, ho, h1, h2⟩
theorem isCodeR.of {h : Heap} {c : Addr} {q : Str} (x : h.CodeRec (.ref c) q) : ∃ o, h.get? c = some o ∧ isCodeR q o := by
  obtain ⟨c', o, vs, t, e, ho, h1, h2⟩ := x
  cases e; exact ⟨o, ho, vs, t, h1, h2⟩
def isTab (ps : Array Value) : Cell := fun o => o = tabObj ps
def isLam (q : Str) (params : Arguments) (body : Expr) (scope : Scope) (clos : List (Str × Addr)) (c' : Addr) : Cell := fun o => ∃ pm ctv, o = kla_obj "<lambda>" q params body scope clos pm c' ctv

theorem w_lambda {params : Arguments} {body : Expr} {scope : Scope} {pos : Pos} {c P : Addr} {ps : Array Value} {clos : List (Str × Addr)} {σ' : Addr → Led} {Q : Value → Shared → Prop} (R : Rep G σ s) (he : EnvIs env sc L cl (.ref c))
    (hclos : closOf cl scope.names [] = some clos) (hu : ∀ c', Upd σ P (isTab ps) (isTab (ps ++ #[rawInt pos.line, rawInt pos.col, .ref c'])) (σ' c')) (hnP : mainGlobals ≠ P ∧ ∀ bm, G.mg "__builtins__" = some (.ref bm) → bm ≠ mainGlobals ∧ bm ≠ P)
    (ht : TriplesOk ps.toList) (hnf : codeAmong pos ps.toList = none) (hcode : codeHdIn G.K c P = true)
    (h : ∀ f c' s', Rep G ((f, isLam (env.qual ++ "<lambda>") params body scope clos c') :: (c', isCodeR (env.qual ++ "<lambda>")) :: σ' c') s' → Q (.ref f) s') (hdef : defaultsOf params env = ([], []) := by with_unfolding_all rfl) :
    wpAny (model G.prog G.w) A (eval (.Lambda params body scope pos) env) Q E s := by
  obtain ⟨bm, ob, b1, b2, b3, b4, b5, b6, b7, b8⟩ := G.bmain
  obtain ⟨o, ho, hto⟩ := R.cellM (hu 0).mem
  cases hto
  refine kla_eval hdef (kla_makeFunction (he.clos hclos) he.globals R.glob he.code (codeHd_of_K R.inK hcode) ho ht hnf hnP.1 ⟨bm, ob, b1, b2, (hnP.2 bm b1).1, (hnP.2 bm b1).2, R.keep _ _ b3 b7 b8, b4, b5, b6⟩ fun c' ctv h' tk hx hge hlt hrec htb => ?_)
  have R1 := R.upd' (s' := { s with heap := h', toks := tk }) (hu c') hx ⟨_, htb, rfl⟩
  have hne : c' ≠ P := fun q => by rw [q] at hge; exact absurd (Heap.lt_size ho) (Nat.not_lt.mpr hge)
  have R2 : Rep G ((c', isCodeR (env.qual ++ "<lambda>")) :: σ' c') { s with heap := h', toks := tk } := by
    obtain ⟨oc, hoc, hcr⟩ := isCodeR.of hrec
    have hn : s.heap.get? c' = none := by
      cases e : s.heap.get? c' with
      | none => rfl
      | some o => exact absurd (Heap.lt_size e) (Nat.not_lt.mpr hge)
    obtain ⟨h1, h2, h3, h4⟩ := R.none_of hn
    exact { R1 with
      cells := fun p hp => by
        rcases List.mem_cons.mp hp with rfl | hp
        · exact ⟨oc, hoc, hcr⟩
        · exact R1.cells p hp
      nd := by
        rw [List.map_cons]
        refine List.nodup_cons.mpr ⟨?_, R1.nd⟩
        obtain ⟨i, hi1, hi2⟩ := (hu c').at
        have hmap : (σ' c').map (·.1) = σ.map (·.1) := by
          rw [hi2, List.map_set]
          refine List.ext_getElem? fun j => ?_
          rw [List.getElem?_set]
          split
          · rename_i e; subst e
            have := hi1.get
            split
            · rw [List.getElem?_map, this]; rfl
            · rename_i q; rw [List.getElem?_eq_none (by omega)]
          · rfl
        rw [hmap]; exact h4
      new := fun p hp => by
        rcases List.mem_cons.mp hp with rfl | hp
        · exact ⟨.inl h1, h2⟩
        · exact R1.new p hp }
  exact h _ c' _ (R2.push (t := tk) _ ⟨_, _, rfl⟩)

theorem w_lambdaHit {params : Arguments} {body : Expr} {scope : Scope} {pos : Pos} {c P c' : Addr} {ps : Array Value} {clos : List (Str × Addr)} {Q : Value → Shared → Prop} (R : Rep G σ s) (he : EnvIs env sc L cl (.ref c))
    (hclos : closOf cl scope.names [] = some clos) (hm : (P, isTab ps) ∈ σ) (hnP : mainGlobals ≠ P ∧ ∀ bm, G.mg "__builtins__" = some (.ref bm) → bm ≠ mainGlobals ∧ bm ≠ P)
    (ht : TriplesOk ps.toList) (hnf : codeAmong pos ps.toList = some (.ref c')) (hcode : codeHdIn G.K c P = true)
    (h : ∀ f s', Rep G ((f, isLam (env.qual ++ "<lambda>") params body scope clos c') :: σ) s' → Q (.ref f) s') (hdef : defaultsOf params env = ([], []) := by with_unfolding_all rfl) :
    wpAny (model G.prog G.w) A (eval (.Lambda params body scope pos) env) Q E s := by
  obtain ⟨bm, ob, b1, b2, b3, b4, b5, b6, b7, b8⟩ := G.bmain
  obtain ⟨o, ho, hto⟩ := R.cellM hm
  cases hto
  refine kla_eval hdef (kla_makeFunctionHit (he.clos hclos) he.globals R.glob he.code (codeHd_of_K R.inK hcode) ho ht hnf ⟨bm, ob, b1, b2, (hnP.2 bm b1).1, (hnP.2 bm b1).2, R.keep _ _ b3 b7 b8, b4, b5, b6⟩ fun ctv h' tk hk hsz => ?_)
  have R1 := R.ext (s' := { s with heap := h', toks := tk }) hk
  exact h _ _ (R1.push (t := tk) _ ⟨_, _, rfl⟩)

/-- a call of a lambda -/
theorem c_lam {f c' : Addr} {q : Str} {params : Arguments} {body : Expr} {scope : Scope} {clos : List (Str × Addr)} {args : Args} {R : Result → Shared → Prop} (binds : List (Str × Value)) (ρ : List (Str × Option Value)) (R₀ : Rep G σ s)
    (hm : Holds G σ f (isLam q params body scope clos c')) (hc : Holds G σ c' (isCodeR q)) (hroom : A.depth < recursionLimit)
    (hbind : ∀ pm ctv, bindArgs (kla_fn "<lambda>" q params body scope clos pm (.ref c') ctv) args = pure binds)
    (h : ∀ L s' env, Rep G ((L, isNs ρ) :: σ) s' → EnvIs env scope L clos (.ref c') → env.frame = some L → env.func = some f →
      wpAny (model G.prog G.w) (A.deeper env) (eval body env) (fun v s'' => R (.ok (.ret v)) s'') (leaveE G A env R) s')
    (hρ : frame0 scope binds = ρ := by rfl)
    (hcell : (scope.names.all fun p => p.2 != .cell) = true := by kernel_rfl) (hloc : ((binds.map (·.1)).all fun x => scope.names.lookup x == some .local) = true := by kernel_rfl)
    (hnb : nodupB (binds.map (·.1)) = true := by kernel_rfl) (hnd : nodupB (ρ.map (·.1)) = true := by kernel_rfl)
    (hco : scope.isCoroutine = false := by kernel_rfl) (hgen : scope.isGenerator = false := by kernel_rfl) (hk : scope.kind = .function := by kernel_rfl) :
    codeAny (model G.prog G.w) A (.call (.ref f) args) R s := by
  subst hρ
  obtain ⟨o, ho, pm, ctv, rfl⟩ := R₀.cellH hm
  have hl : ∀ x ∈ binds, scope.names.lookup x.1 = some .local := fun x hx => by have := List.all_eq_true.mp hloc x.1 (List.mem_map_of_mem hx); simpa using this
  refine kla_callFunE hroom ho rfl hco hgen rfl (isCodeR.rec (R₀.cellH hc)) ?_
  rw [hbind]
  refine wpAny_pure (wpAny_newFunctionEnv (fun x hx => by have := List.all_eq_true.mp hcell x hx; simpa using this) hl (fun h₁ hns hsb => ?_) hk)
  have hk' : ∀ b o, s.heap.get? b = some o → h₁.get? b = some o := fun b o e => hsb.extBut b o (Nat.ne_of_lt (Heap.lt_size e)) (Heap.get?_push_of_some _ e)
  have hnb' := nodup_of_B hnb
  have key : ∀ y, binds.reverse.lookup y = look (frame0 scope binds) y := fun y => by
    rw [← look_frame0 hnb']
    have hr : (binds.reverse.map (·.1)).Nodup := by rw [List.map_reverse]; exact (List.pairwise_reverse.mpr (hnb'.imp fun h => Ne.symm h))
    cases e : binds.lookup y with
    | some v =>
      dsimp only
      rw [if_pos (hl _ (mem_of_lookup e)), lookup_of_mem hr (List.mem_reverse.mpr (mem_of_lookup e))]
    | none =>
      cases e' : binds.reverse.lookup y with
      | none => rfl
      | some v =>
        have := lookup_of_mem hnb' (List.mem_reverse.mp (mem_of_lookup e'))
        rw [e] at this; cases this
  obtain ⟨o', h1, h2⟩ := isNs.of hns (nodup_of_B hnd) key
  have R1 := R₀.add (s' := { s with heap := h₁, toks := s.toks + binds.length }) (get?_size _) hk' h1 h2
  refine ⟨R1.lim, kla_codeExpr (wpAny_mono (h s.heap.objs.size _ _ R1 ⟨rfl, rfl, rfl, rfl, rfl, rfl, hk⟩ rfl rfl) (fun v s' z => z) fun e s' z => z)⟩
end
end Bl

end
section
open PySem PySem.W PyProof.Rows PySem.Calls PyProof
set_option Elab.async false
set_option maxRecDepth 100000
set_option linter.unusedVariables false
namespace Bl
section
variable {KP : Params → Frag} {G : Gd KP} {A : Around} {E : Value → Shared → Prop} {σ τ : Led} {s : Shared} {env : Env} {L : Addr} {ρ : List (Str × Option Value)} {sc : Scope} {cl : List (Str × Addr)} {cd : Value} {u t : Tok} {a b : Int}

theorem w_strIx {value slice : Expr} {x : Str} {k : Int} {c : Nat} {Q : Value → Shared → Prop} (R : Rep G σ s) (h0 : 0 ≤ k) (hk : k < 2 ^ 63) (hc : x.cps[k.toNat]? = some c) (h : ∀ t s', Rep G σ s' → Q (.str ⟨#[c]⟩ t) s')
    (hs : subscripted slice false (.str x t) (.int k u) = operate [.str x t, .int k u] (getItem (.str x t) (.int k u)) := by with_unfolding_all rfl) : wpAny (model G.prog G.w) A (subscriptTail value slice (.str x t) (.int k u)) Q E s := by
  have hlt : k < (x.length : Int) := by
    obtain ⟨h1, _⟩ := Array.getElem?_eq_some_iff.mp hc
    show k < (x.cps.size : Int)
    omega
  refine tail_any (typeIs_str s x t) slot_str_getitem.lookup (P.getItem_str (c := c) ?_ ?_ (h _ _ R.toks)) hs
  · simp; omega
  · have : seqIndex? k x.length = some k.toNat := by
      unfold seqIndex?
      simp [show ¬ (k < 0) by omega, h0, hlt]
    rw [this]; exact hc
theorem w_ord {args : List Value} {c : Nat} {Q : Value → Shared → Prop} (R : Rep G σ s) (h : ∀ t s', Rep G σ s' → Q (.int c t) s') (ha : args = [.str ⟨#[c]⟩ t] := by with_unfolding_all rfl) : wpAny (model G.prog G.w) A (call (.builtin "ord") args) Q E s := by
  subst ha; exact P.ord_of_char (h _ _ R.toks)
theorem x_min2 {args : List Value} {Q : Value → Shared → Prop} (R : Rep G σ s) (hA : A.handled = none) (h : ∀ t s', Rep G σ s' → Q (.int (min a b) t) s') (ha : args = [.int a t, .int b u] := by with_unfolding_all rfl) : wpAny (model G.prog G.w) A (call (.builtin "min") args) Q E s := by
  subst ha; exact w_min2 hA R h
theorem x_callM {f : Value} {args : List Value} {pos : List Value} {Q : Value → Shared → Prop} (h : codeAny (model G.prog G.w) A (.call f ⟨pos, []⟩) (fun r s' => match r with | .ok (.ret v) => Q v s' | .ok _ => False | .error e => E e s') s) (ha : args = pos := by with_unfolding_all rfl) :
    wpAny (model G.prog G.w) A (call f args) Q E s := by subst ha; exact wpAny_call h
theorem w_tests0 {M : Model} {cenv : Env} {Q : Bool → Shared → Prop} (h : Q true s) : wpAny M A (testsOf [] cenv) Q E s := wpAny_pure h
theorem w_tests1 {M : Model} {c : Expr} {cenv : Env} {Q : Bool → Shared → Prop} (h : wpAny M A (isTrue c cenv (eval c cenv)) Q E s) : wpAny M A (testsOf [c] cenv) Q E s := by
  unfold testsOf
  rw [List.forIn_cons]
  refine wpAny_bind ?_
  simp only [if_true]
  refine wpAny_bind (wpAny_mono h (fun b s' hb => wpAny_pure ?_) fun _ _ x => x)
  dsimp only
  rw [List.forIn_nil]
  exact wpAny_pure hb
theorem tabOff {P : Addr} (hP : P ∈ G.ltabs) : mainGlobals ≠ P ∧ ∀ bm, G.mg "__builtins__" = some (.ref bm) → bm ≠ mainGlobals ∧ bm ≠ P := by
  refine ⟨fun q => G.offG.2 (q ▸ hP), fun bm e => ?_⟩
  obtain ⟨bm', ob, b1, b2, b3, b4, b5, b6, b7, b8⟩ := G.bmain
  rw [b1] at e
  cases e
  refine ⟨fun q => ?_, fun q => b8 (q ▸ hP)⟩
  obtain ⟨o, es, ep, e, hd, _⟩ := G.glob
  rw [← q, b3] at e
  cases e
  rw [hd] at b6; cases b6
def isFn : Cell := fun o => ∃ fd, o.data = .func fd
theorem Rep.weak {a : Addr} {c c' : Cell} (R : Rep G ((a, c) :: σ) s) (h : ∀ o, c o → c' o) : Rep G ((a, c') :: σ) s := R.conv h
/-- nothing of the first ledger is lost in the second -/
def Sub (G : Gd KP) (σ τ : Led) : Prop := ∀ a c, Holds G σ a c → Holds G τ a c
theorem Sub.refl : Sub G σ σ := fun _ _ h => h
theorem Sub.cons {p : Addr × Cell} (h : Sub G σ τ) : Sub G σ (p :: τ) := fun a c x => (h a c x).tail
theorem Sub.trans {υ : Led} (h : Sub G σ τ) (h' : Sub G τ υ) : Sub G σ υ := fun a c x => h' a c (h a c x)
theorem Sub.of (h : ∀ p ∈ σ, p ∈ τ) : Sub G σ τ := fun a c x => x.imp (h _) id
theorem ite_t {X Y : Prop} (h : X) : if (true = true) then X else Y := by simpa using h
theorem ite_f {X Y : Prop} (h : Y) : if (false = true) then X else Y := by simpa using h
theorem ite_nt {X Y : Prop} (h : Y) : if ((!true) = true) then X else Y := by simpa using h
theorem ite_nf {X Y : Prop} (h : X) : if ((!false) = true) then X else Y := by simpa using h
end
end Bl

end
section
open PySem PySem.W PyProof.Rows PySem.Calls PyProof
set_option Elab.async false
set_option maxRecDepth 100000
set_option linter.unusedVariables false
namespace Bl
section
variable {KP : Params → Frag} {G : Gd KP} {A : Around} {E : Value → Shared → Prop} {σ τ : Led} {s : Shared} {env : Env} {L : Addr} {ρ : List (Str × Option Value)} {sc : Scope} {cl : List (Str × Addr)} {cd : Value} {u t : Tok} {a b : Int}
theorem iteT {b : Bool} {X Y : Prop} (h : b = true) (x : X) : if b = true then X else Y := by rw [if_pos h]; exact x
theorem iteF {b : Bool} {X Y : Prop} (h : b = false) (x : Y) : if b = true then X else Y := by rw [h]; exact x
theorem x_cwF {g : Addr} {first : List Value} {e : Expr} {rest : List Expr} {pos : Pos} {Q : Value → Shared → Prop}
    (h : wpAny (model G.prog G.w) A (spliced (backTo pos (starEach (e :: rest) env))) (fun vs s₁ => (∃ o fd, s₁.heap.get? g = some o ∧ o.data = .func fd) ∧ wpAny (model G.prog G.w) A (call (.ref g) (first ++ vs)) Q E s₁) E s)
    (hplain : (backTo pos (starEach (e :: rest) env)).any (·.1) = false := by with_unfolding_all rfl) (he : starEach (e :: rest) env = (false, eval e env) :: starEach rest env := by with_unfolding_all rfl) :
    wpAny (model G.prog G.w) A (callWith pos (.ref g) first (backTo pos (starEach (e :: rest) env)) (backToKw pos (keywordEach [] env))) Q E s := w_cwF h hplain he
theorem b_room {A : Around} {env : Env} {k : Nat} (h : A.depth + (k + 1) < recursionLimit) : (A.deeper env).depth + k < recursionLimit := by rw [dd]; omega
theorem b_room0 {A : Around} {env : Env} (h : A.depth + 1 < recursionLimit) : (A.deeper env).depth < recursionLimit := by rw [dd]; omega
end
end Bl

end
section
open PySem PySem.W PyProof.Rows PySem.Calls PyProof
set_option Elab.async false
set_option maxRecDepth 100000
set_option linter.unusedVariables false
namespace Bl
section
variable {KP : Params → Frag} {G : Gd KP} {A : Around} {E : Value → Shared → Prop} {σ τ : Led} {s s' : Shared} {env : Env} {L : Addr} {ρ : List (Str × Option Value)} {sc : Scope} {cl : List (Str × Addr)} {cd : Value} {u t : Tok} {a b : Int}

theorem Rep.upd2 {e i : Addr} {c d c' d' : Cell} (R : Rep G ((e, c) :: (i, d) :: σ) s) (hk : ∀ b o, b ≠ e → b ≠ i → s.heap.get? b = some o → s'.heap.get? b = some o)
    (he : ∃ o, s'.heap.get? e = some o ∧ c' o) (hi : ∃ o, s'.heap.get? i = some o ∧ d' o)
    (hg : s'.gens = s.gens := by rfl) (ho : s'.os = s.os := by rfl) (hd' : s'.drawn = s.drawn := by rfl) : Rep G ((e, c') :: (i, d') :: σ) s' := by
  have ne := R.new _ (.head _)
  have ni := R.new _ (.tail _ (.head _))
  have hnd : (e :: i :: σ.map (·.1)).Nodup := R.nd
  have h1 := (List.nodup_cons.mp hnd).1
  have h2 := (List.nodup_cons.mp (List.nodup_cons.mp hnd).2).1
  have off : ∀ {x : Addr}, ((G.base.get? x = none ∨ x ∈ G.ltabs) ∧ x ∉ G.gtabs) → ∀ {b : Addr} {o : Obj}, G.base.get? b = some o → b ∉ G.ltabs → b ≠ x := fun n b o e hb q => by
    subst q
    rcases n.1 with q | q
    · rw [q] at e; cases e
    · exact hb q
  refine ⟨fun b o e h1 h2 => hk b o (off ne e h2) (off ni e h2) (R.keep b o e h1 h2), fun p hp => ?_, hnd, fun p hp => ?_, fun P hP => ?_, fun P hP => ?_, ho.trans R.os, hd'.trans R.drawn, hg ▸ R.gens⟩
  · rcases List.mem_cons.mp hp with rfl | hp
    · exact he
    · rcases List.mem_cons.mp hp with rfl | hp
      · exact hi
      · obtain ⟨o, e', hc⟩ := R.cells p (.tail _ (.tail _ hp))
        have hm := List.mem_map_of_mem (f := (·.1)) hp
        exact ⟨o, hk _ _ (fun q => h1 (.tail _ (q ▸ hm))) (fun q => h2 (q ▸ hm)) e', hc⟩
  · rcases List.mem_cons.mp hp with rfl | hp
    · exact ne
    · rcases List.mem_cons.mp hp with rfl | hp
      · exact ni
      · exact R.new p (.tail _ (.tail _ hp))
  · obtain ⟨ps, e', t⟩ := R.gt P hP
    exact ⟨ps, hk _ _ (fun q => ne.2 (q ▸ hP)) (fun q => ni.2 (q ▸ hP)) e', t⟩
  · by_cases q : P = e
    · subst q; exact he.imp fun _ x => x.1
    · by_cases q' : P = i
      · subst q'; exact hi.imp fun _ x => x.1
      · obtain ⟨o, e'⟩ := R.lt P hP; exact ⟨o, hk _ _ q q' e'⟩

def isEnumC (it : Addr) (i : Nat) : Cell := fun o => ∃ old, o = { cls := .type "enumerate", dict := none, data := .fields #[.none, .bool false, .ref it, rawInt i, .none, old], slots := #[] }

theorem w_enum {l : Addr} {ns : List Int} {args : List Value} {Q : Value → Shared → Prop} (R : Rep G σ s) (hm : Holds G σ l (isInts ns))
    (h : ∀ e it s', Rep G ((e, isEnumC it 0) :: (it, isLstIter l 0) :: σ) s' → e ∉ G.ltabs → it ∉ G.ltabs → Q (.ref e) s') (ha : args = [.ref l] := by with_unfolding_all rfl) : wpAny (model G.prog G.w) A (call (.type "enumerate") args) Q E s := by
  subst ha
  obtain ⟨ol, hol, vs, hv, hl⟩ := R.cellH hm
  refine call_enumerate_list (isLst.lst ⟨ol, hol, hl⟩) fun h' he hit hsz hk => ?_
  have n0 : s.heap.get? s.heap.objs.size = none := get?_size _
  have n1 : s.heap.get? (s.heap.objs.size + 1) = none := by
    cases e : s.heap.get? (s.heap.objs.size + 1) with
    | none => rfl
    | some o => exact absurd (Nat.lt_of_succ_lt (Heap.lt_size e)) (Nat.lt_irrefl _)
  refine h _ s.heap.objs.size _ ?_ (R.none_of n1).2.2.1 (R.none_of n0).2.2.1
  refine R.addMany (s' := { s with heap := h' }) (τ := [(s.heap.objs.size + 1, isEnumC s.heap.objs.size 0), (s.heap.objs.size, isLstIter l 0)]) hk ?_ ?_ ?_
  · intro p hp
    rcases List.mem_cons.mp hp with rfl | hp
    · exact n1
    · rw [List.mem_singleton.mp hp]; exact n0
  · intro p hp
    rcases List.mem_cons.mp hp with rfl | hp
    · exact ⟨_, he, _, rfl⟩
    · rw [List.mem_singleton.mp hp]; obtain ⟨o, h1, h2⟩ := hit; exact ⟨o, h1, h2⟩
  · simp

theorem w_iterEnum {e it : Addr} {Q : Value → Shared → Prop} (R : Rep G ((e, isEnumC it 0) :: σ) s) (h : Q (.ref e) s) : wpAny (model G.prog G.w) A (pyIter (.ref e)) Q E s := by
  obtain ⟨o, ho, old, rfl⟩ := R.cellM (.head _)
  exact wpAny_pyIter_enum (i := (0 : Nat)) ho h

/-- for i, v in enumerate(a list of ints), where the list may be written at places already seen -/
theorem w_forEnum {xi xv : Str} {pi pv pt : Pos} {x1 : Nat} {body : List Stmt} {e it l : Addr} {R' : Result → Shared → Prop} (n : Nat) (val : Nat → Int) (J : Nat → Led → Prop) (hA : A.handled = none) (hoff : e ∉ G.ltabs ∧ it ∉ G.ltabs)
    (R : Rep G ((e, isEnumC it 0) :: (it, isLstIter l 0) :: σ) s) (h0 : J 0 σ)
    (hL : ∀ i σ', J i σ' → ∃ ns : List Int, Holds G σ' l (isInts ns) ∧ ns.length = n ∧ (i < n → ns[i]? = some (val i)))
    (turn : ∀ (E' : Value → Shared → Prop) i σ' s' t u, i < n → J i σ' → Rep G ((e, isEnumC it (i + 1)) :: (it, isLstIter l (i + 1)) :: σ') s' →
      wpAny (model G.prog G.w) A (storeName env xi (.int i t)) (fun _ s₁ => wpAny (model G.prog G.w) A (storeName env xv (.int (val i) u)) (fun _ s₂ => wpAny (model G.prog G.w) A (execs body env) (fun fl s₃ => match fl with
        | .next | .cont => ∃ σ'', Rep G ((e, isEnumC it (i + 1)) :: (it, isLstIter l (i + 1)) :: σ'') s₃ ∧ J (i + 1) σ''
        | .brk => R' (.ok .next) s₃
        | .ret v => R' (.ok (.ret v)) s₃) E' s₂) E' s₁) E' s')
    (done : ∀ σ' s', J n σ' → Rep G σ' s' → R' (.ok .next) s') : codeAny (model G.prog G.w) A (.forLoop (.Tuple [.Name xi pi, .Name xv pv] x1 pt) (.ref e) body [] env) R' s := by
  have hne : e ≠ it := by
    have hnd : (e :: it :: σ.map (·.1)).Nodup := R.nd
    exact fun q => (List.nodup_cons.mp hnd).1 (q ▸ List.mem_cons_self)
  refine codeAny_forLoop_any (fun k s' => ∃ i σ', Rep G ((e, isEnumC it i) :: (it, isLstIter l i) :: σ') s' ∧ J i σ' ∧ i ≤ n ∧ k = n + 1 - i) ?_ (n + 1) ⟨0, σ, R, h0, Nat.zero_le _, rfl⟩
  rintro k s' ⟨i, σ', R', hJ, hi, rfl⟩
  obtain ⟨ns, hh, hlen, hval⟩ := hL i σ' hJ
  obtain ⟨ol, hol, vs, hv, hl⟩ := R'.cellH hh.tail.tail
  have hlst := isLst.lst ⟨ol, hol, hl⟩
  obtain ⟨oe, hoe, old, rfl⟩ := R'.cellM (.head _)
  obtain ⟨oi, hoi, hit⟩ := R'.cellM (.tail _ (.head _))
  have hvl := hv.length
  by_cases hlt : i < n
  · obtain ⟨u, hu⟩ := ints_get hv (hval hlt)
    refine wpAny_pyNext_enum_item hoe ⟨oi, hoi, hit⟩ hlst (by simpa using hu) hne fun h₁ heo hit₁ ht₁ hz₁ hk₁ => ?_
    refine wpAny_letOwnedTupleGo_enum heo fun h₂ he₂ hs₂ => ?_
    have hsz2 : h₂.objs.size = s'.heap.objs.size + 1 := hs₂.1.trans hz₁
    have hnT : s'.heap.get? s'.heap.objs.size = none := get?_size _
    have heT : s'.heap.objs.size ≠ e := fun q => by rw [q] at hnT; rw [hnT] at hoe; cases hoe
    have ht₂ : h₂.IsTuple s'.heap.objs.size #[.int i s'.toks, .int (val i) u] := ⟨_, (hs₂.2 _ heT).trans ht₁, rfl, _, rfl⟩
    refine wpAny_assign_Tuple hA ht₂ rfl rfl fun h₃ hx₃ => ?_
    have hk3 : ∀ b o, b ≠ e → b ≠ it → s'.heap.get? b = some o → h₃.get? b = some o := fun b o h1 h2 x => by
      have hb : b < s'.heap.objs.size := Heap.lt_size x
      exact hx₃ b o (Nat.ne_of_lt (Nat.lt_of_lt_of_eq (Nat.lt_succ_of_lt hb) hsz2.symm)) (hs₂.extBut b o h1 (hk₁ b o h1 h2 x))
    have heH : e < s'.heap.objs.size := Heap.lt_size hoe
    have hiH : it < s'.heap.objs.size := Heap.lt_size hoi
    have cast : ((i + 1 : Nat) : Int) = (i : Int) + 1 := by push_cast; rfl
    have R3 : Rep G ((e, isEnumC it (i + 1)) :: (it, isLstIter l (i + 1)) :: σ') { s' with heap := h₃, toks := s'.toks + 1 } := by
      refine R'.upd2 hk3 ⟨_, hx₃ e _ (Nat.ne_of_lt (Nat.lt_of_lt_of_eq (Nat.lt_succ_of_lt heH) hsz2.symm)) he₂, ?_⟩ ?_
      · exact ⟨_, by rw [cast]⟩
      · obtain ⟨o, h1, h2⟩ := hit₁
        exact ⟨o, hx₃ it _ (Nat.ne_of_lt (Nat.lt_of_lt_of_eq (Nat.lt_succ_of_lt hiH) hsz2.symm)) (hs₂.extBut it o (Ne.symm hne) h1), h2⟩
    show wpAny _ A (do holding [.int (val i) u] (assign (.Name xi pi) env (.int i s'.toks)); do holding [] (assign (.Name xv pv) env (.int (val i) u)); pure ()) _ _ _
    refine wpAny_bind (wpAny_holding (PySem.wpAny_assign_Name (wpAny_mono (turn _ i σ' _ s'.toks u hlt hJ R3) (fun _ s₁ h₁ => ?_) fun _ _ x => x)))
    refine wpAny_bind (wpAny_holding (PySem.wpAny_assign_Name (wpAny_mono h₁ (fun _ s₂ h₂ => wpAny_pure ?_) fun _ _ x => x)))
    refine wpAny_mono h₂ (fun fl s₃ h₃ => ?_) fun _ _ x => x
    cases fl with
    | ret v => exact h₃
    | brk => exact h₃
    | next => obtain ⟨σ'', r, j⟩ := h₃; exact ⟨n + 1 - (i + 1), by omega, i + 1, σ'', r, j, hlt, rfl⟩
    | cont => obtain ⟨σ'', r, j⟩ := h₃; exact ⟨n + 1 - (i + 1), by omega, i + 1, σ'', r, j, hlt, rfl⟩
  · have hin : i = n := by omega
    subst hin
    refine wpAny_pyNext_enum_end hA hoe ⟨oi, hoi, hit⟩ hlst (by simp; omega) fun h₁ he₁ => wpAny_execs_nil ?_
    have R1 : Rep G ((it, isLstIter l i) :: σ') s' := R'.drop1
    exact done σ' _ hJ (R1.del he₁ hoff.2)
end
end Bl

end
section
open PySem PySem.W PyProof.Rows PySem.Calls PyProof
set_option Elab.async false
set_option maxRecDepth 100000
set_option linter.unusedVariables false
namespace Bl
section
variable {KP : Params → Frag} {G : Gd KP} {A : Around} {E : Value → Shared → Prop} {σ τ : Led} {s s' : Shared} {env : Env} {L : Addr} {ρ : List (Str × Option Value)} {sc : Scope} {cl : List (Str × Addr)} {cd : Value} {u t : Tok} {a b : Int}
theorem roomD {A : Around} {env : Env} {K : Nat} (h : A.depth + K < recursionLimit) (hk : 1 ≤ K) : (A.deeper env).depth < recursionLimit := by rw [dd]; omega
theorem roomDk {A : Around} {env : Env} {K k : Nat} (h : A.depth + K < recursionLimit) (hk : k + 1 ≤ K) : (A.deeper env).depth + k < recursionLimit := by rw [dd]; omega
theorem room0 {A : Around} {K : Nat} (h : A.depth + K < recursionLimit) : A.depth < recursionLimit := by omega
theorem roomk {A : Around} {K k : Nat} (h : A.depth + K < recursionLimit) (hk : k ≤ K) : A.depth + k < recursionLimit := by omega
theorem x_chain2 {M : Model} {l r₁ r₂ : Expr} {op₁ op₂ : CmpOp} {pos : Pos} {whole : Sem Value} {Q : Bool → Shared → Prop}
    (h : wpAny M A (eval l env) (fun a s₁ => wpAny M A (eval r₁ env) (fun b s₂ => wpAny M A (compareOp op₁ a b) (fun c s₃ => wpAny M A (truthy c) (fun cb s₄ =>
      if cb = true then wpAny M A (eval r₂ env) (fun d s₅ => wpAny M A (compareOp op₂ b d) (fun e s₆ => wpAny M A (truthy e) Q E s₆) E s₅) E s₄ else Q false s₄) E s₃) E s₂) E s₁) E s)
    (hl : lastMarks [op₁, op₂] [r₁, r₂] = false := by with_unfolding_all rfl) : wpAny M A (PySem.isTrue (l.Compare [op₁, op₂] [r₁, r₂] pos) env whole) Q E s := by
  refine isTrue_chain (wpAny_mono h (fun a s₁ h₁ => ?_) fun _ _ x => x) hl
  unfold testChain
  refine wpAny_bind (wpAny_holding (wpAny_mono h₁ (fun b s₂ h₂ => ?_) fun _ _ x => x))
  refine wpAny_bind (wpAny_standAt (wpAny_bind (wpAny_holding (wpAny_mono h₂ (fun c s₃ h₃ => ?_) fun _ _ x => x))))
  refine wpAny_bind (wpAny_release (wpAny_bind (wpAny_holding (wpAny_mono h₃ (fun cb s₄ h₄ => ?_) fun _ _ x => x))))
  cases cb with
  | false => simpa using wpAny_pure h₄
  | true =>
    simp only [if_true] at h₄ ⊢
    unfold testChain
    refine wpAny_bind (wpAny_holding (wpAny_mono h₄ (fun d s₅ h₅ => ?_) fun _ _ x => x))
    refine wpAny_bind (wpAny_standAt (wpAny_bind (wpAny_operating (wpAny_mono h₅ (fun e s₆ h₆ => ?_) fun _ _ x => x))))
    exact wpAny_holding h₆
theorem w_minL {l : Addr} {ns : List Int} {args : List Value} {Q : Value → Shared → Prop} (hA : A.handled = none) (R : Rep G σ s) (hm : Holds G σ l (isInts ns)) (hne : ns ≠ []) (h : ∀ M t s', least ns M → Rep G σ s' → Q (.int M t) s') (ha : args = [.ref l] := by with_unfolding_all rfl) :
    wpAny (model G.prog G.w) A (call (.builtin "min") args) Q E s := by subst ha; exact w_minS (src_list hA R hm) hne h
theorem w_maxL {l : Addr} {ns : List Int} {args : List Value} {Q : Value → Shared → Prop} (hA : A.handled = none) (R : Rep G σ s) (hm : Holds G σ l (isInts ns)) (hne : ns ≠ []) (h : ∀ M t s', most ns M → Rep G σ s' → Q (.int M t) s') (ha : args = [.ref l] := by with_unfolding_all rfl) :
    wpAny (model G.prog G.w) A (call (.builtin "max") args) Q E s := by subst ha; exact w_maxS (src_list hA R hm) hne h
end
end Bl

end
section
open PySem PySem.W PyProof.Rows PySem.Calls PyProof
set_option Elab.async false
set_option maxRecDepth 100000
set_option linter.unusedVariables false
namespace Bl
section
variable {KP : Params → Frag} {G : Gd KP} {A : Around} {E : Value → Shared → Prop} {σ τ : Led} {s s' : Shared} {env : Env} {L : Addr} {ρ : List (Str × Option Value)} {sc : Scope} {cl : List (Str × Addr)} {cd : Value} {u t : Tok} {a b : Int}

/-! exceptions -/
def FramesIn (σ : Led) (l : List Env) : Prop := ∀ env ∈ l, env.scope.kind ≠ .module ∧ ∃ L ρ, env.frame = some L ∧ (L, isNs ρ) ∈ σ
theorem FramesIn.mono {l : List Env} (h : FramesIn σ l) (hs : ∀ p ∈ σ, p ∈ τ) : FramesIn τ l := fun env he => let ⟨h1, L, ρ, h2, h3⟩ := h env he; ⟨h1, L, ρ, h2, hs _ h3⟩
theorem FramesIn.skip {l : List Env} {p : Addr × Cell} (h : FramesIn σ l) : FramesIn (p :: σ) l := h.mono fun _ hp => .tail _ hp
theorem FramesIn.push {l : List Env} (h : FramesIn σ l) (hk : env.scope.kind = .function) (hf : env.frame = some L) : FramesIn ((L, isNs ρ) :: σ) (env :: l) := fun e he => by
  rcases List.mem_cons.mp he with rfl | he
  · exact ⟨by rw [hk]; decide, L, ρ, hf, .head _⟩
  · exact h.skip e he
def isExc0 (c : Value) : Cell := fun o => o.cls = c ∧ ∃ vs, o.data = .fields vs ∧ vs[1]? = some .none
def isExcT (c : Value) (T : Addr) : Cell := fun o => o.cls = c ∧ ∃ vs, o.data = .fields vs ∧ vs[1]? = some (.ref T)
def isTb : Cell := fun o => ∃ ts, o.data = .fields ts ∧ ts[3]? = some .none

theorem isNs.notFields {o : Obj} (h : isNs ρ o) (vs : Array Value) : o.data ≠ .fields vs := fun q => by
  obtain ⟨_, es, ep, e, _⟩ := h
  rw [e] at q; cases q
theorem Rep.uniq (R : Rep G σ s) {x : Addr} {c d : Cell} (h1 : (x, c) ∈ σ) (h2 : (x, d) ∈ σ) : c = d := by
  obtain ⟨i, hi⟩ := List.mem_iff_getElem?.mp h1
  obtain ⟨j, hj⟩ := List.mem_iff_getElem?.mp h2
  have e : i = j := nodup_inj R.nd (i := i) (j := j) (a := x) (by rw [List.getElem?_map, hi]; rfl) (by rw [List.getElem?_map, hj]; rfl)
  subst e
  rw [hi] at hj
  exact (Prod.mk.inj (Option.some.inj hj)).2

/-- what a frame's way out leaves of the ledger -/
theorem rep_left {e : Addr} {c : Value} {ce : Cell} {hid : List Addr} {l : List Env} {base h' : Heap} (R : Rep G ((e, ce) :: σ) s) (hF : FramesIn σ l) (hbase : base = hideAll s.heap (e :: hid ++ l.filterMap (·.frame)))
    (hhid : ∀ x ∈ hid, x ∉ σ.map (·.1) ∧ G.base.get? x = none ∧ x ∉ G.gtabs ∧ x ∉ G.ltabs) (x : Heap.Left base l e c s.heap h') :
    ∃ T, T ∉ G.ltabs ∧ Rep G ((e, isExcT c T) :: (T, isTb) :: σ) { s with heap := h' } := by
  obtain ⟨x1, x2, x3, x4⟩ := x
  obtain ⟨oe, vs, T, oT, ts, he, hc, hd, hv, hbT, hTe, hT, hdT, h3⟩ := x3
  have frm : ∀ y ∈ l.filterMap (·.frame), ∃ ρ, (y, isNs ρ) ∈ σ := fun y hy => by
    obtain ⟨env, henv, e1⟩ := List.mem_filterMap.mp hy
    obtain ⟨_, L, ρ, h1, h2⟩ := hF env henv
    rw [h1] at e1; cases e1; exact ⟨ρ, h2⟩
  have hnd : (e :: σ.map (·.1)).Nodup := R.nd
  have heσ : e ∉ σ.map (·.1) := (List.nodup_cons.mp hnd).1
  have inb : ∀ {b o}, s.heap.get? b = some o → b ≠ e → b ∉ hid → b ∉ l.filterMap (·.frame) → base.get? b = some o := fun {b o} h1 h2 h3 h4 => by
    rw [hbase]
    refine hideAll_get _ h1 fun hm => ?_
    rcases List.mem_append.mp hm with hm | hm
    · rcases List.mem_cons.mp hm with q | q
      · exact h2 q
      · exact h3 q
    · exact h4 hm
  have frmNew : ∀ y ∈ l.filterMap (·.frame), (G.base.get? y = none ∨ y ∈ G.ltabs) ∧ y ∉ G.gtabs := fun y hy => let ⟨ρ, h⟩ := frm y hy; R.new _ (.tail _ h)
  have eNew := R.new _ (.head _)
  have keepB : ∀ b o, G.base.get? b = some o → b ∉ G.gtabs → b ∉ G.ltabs → base.get? b = some o := fun b o h1 h2 h3 => by
    have clash : ∀ {y : Addr}, ((G.base.get? y = none ∨ y ∈ G.ltabs) ∧ y ∉ G.gtabs) → b ≠ y := fun {y} n q => by
      subst q
      rcases n.1 with q | q
      · rw [q] at h1; cases h1
      · exact h3 q
    refine inb (R.keep b o h1 h2 h3) (clash eNew) (fun q => ?_) fun q => clash (frmNew b q) rfl
    have := (hhid b q).2.1; rw [this] at h1; cases h1
  have hTf : T ∉ l.filterMap (·.frame) := fun q => by
    obtain ⟨ρ, hm⟩ := frm T q
    obtain ⟨o, ho, hn⟩ := R.cells _ (.tail _ hm)
    obtain ⟨sl, h1⟩ := x4 T o ho hn.notFields
    rw [hT] at h1; cases h1
    exact hn.notFields _ hdT
  have hTold : ∀ o, s.heap.get? T = some o → T ∈ hid := fun o ho => by
    refine Classical.byContradiction fun q => ?_
    have := inb ho hTe q hTf
    rw [hbT] at this; cases this
  have cellK : ∀ p ∈ σ, ∃ o, h'.get? p.1 = some o ∧ p.2 o := fun p hp => by
    obtain ⟨o, ho, hc⟩ := R.cells p (.tail _ hp)
    by_cases q : p.1 ∈ l.filterMap (·.frame)
    · obtain ⟨ρ, hm⟩ := frm _ q
      obtain ⟨y, cy⟩ := p
      have := Rep.uniq R.drop1 hp hm
      subst this
      obtain ⟨sl, h1⟩ := x4 _ o ho (isNs.notFields hc)
      exact ⟨_, h1, hc⟩
    · refine ⟨o, x1 _ _ (inb ho (fun z => heσ (z ▸ List.mem_map_of_mem (f := (·.1)) hp)) (fun z => (hhid _ z).1 (List.mem_map_of_mem (f := (·.1)) hp)) q), hc⟩
  have hTσ : T ∉ σ.map (·.1) := fun hm => by
    obtain ⟨p, hp, q⟩ := List.mem_map.mp hm
    obtain ⟨o, ho, _⟩ := R.cells p (.tail _ hp)
    rw [q] at ho
    exact (hhid T (hTold o ho)).1 hm
  refine ⟨T, (by
    cases hq : s.heap.get? T with
    | some o => exact (hhid T (hTold o hq)).2.2.2
    | none => exact (R.none_of hq).2.2.1), fun b o h1 h2 h3 => x1 b o (keepB b o h1 h2 h3), fun p hp => ?_, ?_, fun p hp => ?_, fun P hP => ?_, fun P hP => ?_, R.os, R.drawn, R.gens⟩
  · rcases List.mem_cons.mp hp with rfl | hp
    · exact ⟨oe, he, hc, vs, hd, hv⟩
    · rcases List.mem_cons.mp hp with rfl | hp
      · exact ⟨oT, hT, ts, hdT, h3⟩
      · exact cellK p hp
  · show (e :: T :: σ.map (·.1)).Nodup
    exact List.nodup_cons.mpr ⟨fun hm => (List.mem_cons.mp hm).elim (fun q => hTe q.symm) heσ, List.nodup_cons.mpr ⟨hTσ, (List.nodup_cons.mp hnd).2⟩⟩
  · rcases List.mem_cons.mp hp with rfl | hp
    · exact eNew
    · rcases List.mem_cons.mp hp with rfl | hp
      · cases hq : s.heap.get? T with
        | some o => have := hhid T (hTold o hq); exact ⟨.inl this.2.1, this.2.2.1⟩
        | none => have := R.none_of hq; exact ⟨.inl this.1, this.2.1⟩
      · exact R.new p (.tail _ hp)
  · obtain ⟨ps, h1, h2⟩ := R.gt P hP
    exact ⟨ps, x1 _ _ (inb h1 (fun q => eNew.2 (q ▸ hP)) (fun q => (hhid P q).2.2.1 hP) (fun q => (frmNew P q).2 hP)), h2⟩
  · obtain ⟨o, h1⟩ := R.lt P hP
    by_cases q1 : P = e
    · exact ⟨oe, q1 ▸ he⟩
    · by_cases q2 : P ∈ l.filterMap (·.frame)
      · obtain ⟨ρ, hm⟩ := frm P q2
        exact (cellK _ hm).imp fun _ x => x.1
      · exact ⟨o, x1 _ _ (inb h1 q1 (fun q => (hhid P q).2.2.2 hP) q2)⟩

theorem frames_fun {hid : List Addr} {e : Addr} {l : List Env} (R : Rep G σ s) (hF : FramesIn σ l) : ∀ l', (∀ env ∈ l', env ∈ l) → s.heap.FunFrames (hideAll s.heap (e :: hid ++ l.filterMap (·.frame))) l'
  | [], _ => trivial
  | env :: r, hl => by
    obtain ⟨h1, L, ρ, h2, h3⟩ := hF env (hl env (.head _))
    obtain ⟨o, ho, hn⟩ := R.cells _ h3
    refine ⟨h1, ⟨L, o, h2, hideAll_none _ ?_, ho, hn.notFields⟩, frames_fun R hF r fun x hx => hl x (.tail _ hx)⟩
    exact List.mem_append_right _ (List.mem_filterMap.mpr ⟨env, hl env (.head _), h2⟩)

theorem w_leaving0 {e : Addr} {c : Value} {outer : List Env} {Q : Unit → Shared → Prop} (R : Rep G ((e, isExc0 c) :: σ) s) (hfr : A.frames = some (env :: outer)) (hF : FramesIn σ (env :: outer))
    (h : ∀ T s', T ∉ G.ltabs → Rep G ((e, isExcT c T) :: (T, isTb) :: σ) s' → Q () s') : wpAny (model G.prog G.w) A (leaving env (.ref e)) Q E s := by
  obtain ⟨o, ho, hc, vs, hd, h1⟩ := R.cells _ (.head _)
  obtain ⟨_, L, ρ, hf, _⟩ := hF env (.head _)
  refine wpAny_leaving_first (base := hideAll s.heap (e :: [] ++ (env :: outer).filterMap (·.frame))) hfr (frames_fun R.drop1 hF _ fun _ h => h) hf ho (fun b o e => of_hideAll _ e) (hideAll_none _ (by simp)) hd h1 fun h' x => ?_
  obtain ⟨T, hTl, R'⟩ := rep_left (hid := []) R hF rfl (by simp) x
  rw [hc] at R'
  exact h T _ hTl R'
theorem w_leavingT {e T₀ : Addr} {c : Value} {outer : List Env} {Q : Unit → Shared → Prop} (R : Rep G ((e, isExcT c T₀) :: (T₀, isTb) :: σ) s) (hl₀ : T₀ ∉ G.ltabs) (hfr : A.frames = some (env :: outer)) (hF : FramesIn σ (env :: outer))
    (h : ∀ T s', T ∉ G.ltabs → Rep G ((e, isExcT c T) :: (T, isTb) :: σ) s' → Q () s') : wpAny (model G.prog G.w) A (leaving env (.ref e)) Q E s := by
  obtain ⟨o, ho, hc, vs, hd, h1⟩ := R.cells _ (.head _)
  obtain ⟨oT, hT, ts, hdT, h3⟩ := R.cells _ (.tail _ (.head _))
  obtain ⟨_, L, ρ, hf, _⟩ := hF env (.head _)
  have hnd : (e :: T₀ :: σ.map (·.1)).Nodup := R.nd
  have hTe : T₀ ≠ e := fun q => (List.nodup_cons.mp hnd).1 (q ▸ List.mem_cons_self)
  have hTσ := (List.nodup_cons.mp (List.nodup_cons.mp hnd).2).1
  have nT := R.new _ (.tail _ (.head _))
  have R0 : Rep G ((e, isExcT c T₀) :: σ) s := R.sub (fun p hp => by rcases List.mem_cons.mp hp with rfl | hp; exact .head _; exact .tail _ (.tail _ hp)) (List.nodup_cons.mpr ⟨fun hm => (List.nodup_cons.mp hnd).1 (.tail _ hm), (List.nodup_cons.mp (List.nodup_cons.mp hnd).2).2⟩)
  refine wpAny_leaving_next (base := hideAll s.heap (e :: [T₀] ++ (env :: outer).filterMap (·.frame))) hfr (frames_fun R0.drop1 hF _ fun _ h => h) hf
    ⟨o, vs, T₀, oT, ts, ho, hc, hd, h1, hideAll_none _ (by simp), hTe, hT, hdT, h3⟩ (fun b o e => of_hideAll _ e) (hideAll_none _ (by simp)) fun h' x => ?_
  obtain ⟨T, hTl, R'⟩ := rep_left (hid := [T₀]) R0 hF rfl (by
    intro x hx
    rw [List.mem_singleton.mp hx]
    exact ⟨hTσ, nT.1.resolve_right hl₀, nT.2, hl₀⟩) x
  exact h T _ hTl R'
theorem note_first {M : Model} {base : Heap} {env : Env} {outer : List Env} {L e : Addr} {oe : Obj} {vs : Array Value} {Q : Unit → Shared → Prop}
    (hfr : A.frames = some (env :: outer)) (hl : s.heap.FunFrames base (env :: outer)) (hf : env.frame = some L)
    (he : s.heap.get? e = some oe) (hkb : base.StaysIn s.heap) (hen : base.get? e = none) (hd : oe.data = .fields vs) (h1 : vs[1]? = some .none)
    (h : ∀ h', Heap.Left base (env :: outer) e oe.cls s.heap h' → Q () { s with heap := h' }) : wpAny M A (noteFrame (.ref e) env) (fun _ s₂ => wpAny M A (setFlight (.ref e) none) Q E s₂) E s := by
  unfold noteFrame
  simp only [hf]
  refine wpAny_bind (wpAny_field he hd h1 ?_)
  rw [if_neg (by decide)]
  exact wpAny_newEntry hfr hl hf he hkb hen hd (Array.getElem?_eq_some_iff.mp h1).1 h
theorem note_next {M : Model} {base : Heap} {env : Env} {outer : List Env} {L e : Addr} {cls : Value} {Q : Unit → Shared → Prop}
    (hfr : A.frames = some (env :: outer)) (hl : s.heap.FunFrames base (env :: outer)) (hf : env.frame = some L) (ht : s.heap.Traced base e cls) (hkb : base.StaysIn s.heap) (hen : base.get? e = none)
    (h : ∀ h', Heap.Left base (env :: outer) e cls s.heap h' → Q () { s with heap := h' }) : wpAny M A (noteFrame (.ref e) env) (fun _ s₂ => wpAny M A (setFlight (.ref e) none) Q E s₂) E s := by
  obtain ⟨oe, vs, T, oT, ts, he, hcls, hd, h1, hnT, hTe, hT, hdT, h3⟩ := ht
  subst hcls
  unfold noteFrame
  simp only [hf]
  refine wpAny_bind (wpAny_field he hd h1 ?_)
  rw [if_pos (show (Value.ref T != Value.none) = true from by simp)]
  refine wpAny_bind (wpAny_field hT hdT h3 ?_)
  rw [if_neg (show ¬ ((Value.none == rawInt L) = true) from by simp [rawInt])]
  refine wpAny_bind (wpAny_setField hT hdT (Array.getElem?_eq_some_iff.mp h3).1 ?_)
  have other : ∀ b, b ≠ T → (s.heap.update T (Obj.mapFields (·.setIfInBounds 3 Value.none))).get? b = s.heap.get? b := fun b hb => Heap.get?_update_other _ _ (Ne.symm hb)
  have noRecord : ∀ b o, s.heap.get? b = some o → (∀ vs, o.data ≠ .fields vs) → b ≠ T := fun b o hb hnf q => by
    rw [q, hT] at hb; injection hb with hb; subst hb; exact hnf ts hdT
  refine wpAny_newEntry hfr (hl.of_keeps fun b o hb hnf => ⟨o, (other b (noRecord b o hb hnf)).trans hb, rfl⟩) hf ((other e (Ne.symm hTe)).trans he)
    (fun b o hbo => (other b fun q => by rw [q, hnT] at hbo; cases hbo).trans (hkb b o hbo)) hen hd (Array.getElem?_eq_some_iff.mp h1).1
    fun h' ⟨x1, x2, x3, x4⟩ => h h' ⟨x1, x2, x3, fun b o hb hnf => x4 b o ((other b (noRecord b o hb hnf)).trans hb) hnf⟩
theorem w_note0 {e : Addr} {c : Value} {outer : List Env} {Q : Unit → Shared → Prop} (R : Rep G ((e, isExc0 c) :: σ) s) (hfr : A.frames = some (env :: outer)) (hF : FramesIn σ (env :: outer))
    (h : ∀ T s', T ∉ G.ltabs → Rep G ((e, isExcT c T) :: (T, isTb) :: σ) s' → Q () s') : wpAny (model G.prog G.w) A (noteFrame (.ref e) env) (fun _ s₂ => wpAny (model G.prog G.w) A (setFlight (.ref e) none) Q E s₂) E s := by
  obtain ⟨o, ho, hc, vs, hd, h1⟩ := R.cells _ (.head _)
  obtain ⟨_, L, ρ, hf, _⟩ := hF env (.head _)
  refine note_first (base := hideAll s.heap (e :: [] ++ (env :: outer).filterMap (·.frame))) hfr (frames_fun R.drop1 hF _ fun _ h => h) hf ho (fun b o e => of_hideAll _ e) (hideAll_none _ (by simp)) hd h1 fun h' x => ?_
  obtain ⟨T, hTl, R'⟩ := rep_left (hid := []) R hF rfl (by simp) x
  rw [hc] at R'
  exact h T _ hTl R'
theorem w_noteT {e T₀ : Addr} {c : Value} {outer : List Env} {Q : Unit → Shared → Prop} (R : Rep G ((e, isExcT c T₀) :: (T₀, isTb) :: σ) s) (hl₀ : T₀ ∉ G.ltabs) (hfr : A.frames = some (env :: outer)) (hF : FramesIn σ (env :: outer))
    (h : ∀ T s', T ∉ G.ltabs → Rep G ((e, isExcT c T) :: (T, isTb) :: σ) s' → Q () s') : wpAny (model G.prog G.w) A (noteFrame (.ref e) env) (fun _ s₂ => wpAny (model G.prog G.w) A (setFlight (.ref e) none) Q E s₂) E s := by
  obtain ⟨o, ho, hc, vs, hd, h1⟩ := R.cells _ (.head _)
  obtain ⟨oT, hT, ts, hdT, h3⟩ := R.cells _ (.tail _ (.head _))
  obtain ⟨_, L, ρ, hf, _⟩ := hF env (.head _)
  have hnd : (e :: T₀ :: σ.map (·.1)).Nodup := R.nd
  have hTe : T₀ ≠ e := fun q => (List.nodup_cons.mp hnd).1 (q ▸ List.mem_cons_self)
  have hTσ := (List.nodup_cons.mp (List.nodup_cons.mp hnd).2).1
  have nT := R.new _ (.tail _ (.head _))
  have R0 : Rep G ((e, isExcT c T₀) :: σ) s := R.sub (fun p hp => by rcases List.mem_cons.mp hp with rfl | hp; exact .head _; exact .tail _ (.tail _ hp)) (List.nodup_cons.mpr ⟨fun hm => (List.nodup_cons.mp hnd).1 (.tail _ hm), (List.nodup_cons.mp (List.nodup_cons.mp hnd).2).2⟩)
  refine note_next (base := hideAll s.heap (e :: [T₀] ++ (env :: outer).filterMap (·.frame))) hfr (frames_fun R0.drop1 hF _ fun _ h => h) hf
    ⟨o, vs, T₀, oT, ts, ho, hc, hd, h1, hideAll_none _ (by simp), hTe, hT, hdT, h3⟩ (fun b o e => of_hideAll _ e) (hideAll_none _ (by simp)) fun h' x => ?_
  obtain ⟨T, hTl, R'⟩ := rep_left (hid := [T₀]) R0 hF rfl (by
    intro x hx
    rw [List.mem_singleton.mp hx]
    exact ⟨hTσ, nT.1.resolve_right hl₀, nT.2, hl₀⟩) x
  exact h T _ hTl R'
end
end Bl

end
section
open PySem PySem.W PyProof.Rows PySem.Calls PyProof
set_option Elab.async false
set_option maxRecDepth 100000
set_option linter.unusedVariables false
namespace Bl
section
variable {KP : Params → Frag} {G : Gd KP} {A : Around} {E : Value → Shared → Prop} {σ τ : Led} {s s' : Shared} {env : Env} {L : Addr} {ρ : List (Str × Option Value)} {sc : Scope} {cl : List (Str × Addr)} {cd : Value} {u t : Tok} {a b : Int}

/-! a small dict with str keys -/
def isDictS (G : Gd KP) (kvs : List (Str × Value)) : Cell := fun o => ∀ (d : Addr) (h : Heap), h.get? d = some o → h.DictOf (PySem.strKind G.prog G.w) d kvs
theorem w_dict2 {ka kb : Str} {va vb : Int} {k1 k2 k3 k4 : Nat} {p1 p2 p3 p4 pos : Pos} {Q : Value → Shared → Prop} (R : Rep G σ s)
    (h : ∀ d t u s', Rep G ((d, isDictS G (merged [] [(ka, .int va t), (kb, .int vb u)])) :: σ) s' → Q (.ref d) s') :
    wpAny (model G.prog G.w) A (eval (.Dict [some (.Constant (.str ka) k1 p1), some (.Constant (.str kb) k2 p2)] [.Constant (.int va) k3 p3, .Constant (.int vb) k4 p4] pos) env) Q E s := by
  refine wpAny_Dict_walk (knd := PySem.strKind G.prog G.w) rfl rfl (by simp) (show 2 ≤ 15 by decide) ?_
  refine pairTrees_cons_walk (wpAny_Constant_str (wpAny_Constant_int (pairTrees_cons_walk (wpAny_Constant_str (wpAny_Constant_int (pairTrees_nil_walk ?_))))))
  refine ⟨[(ka, .int va _), (kb, .int vb _)], ⟨strKind_is .., rfl, strKind_is .., rfl, trivial⟩, Heap.DictOf.new _, fun h' hd hs => ?_⟩
  obtain ⟨o, es, ep, ho, h1, h2, h3, h4, h5⟩ := hd
  have hc : isDictS G (merged [] [(ka, .int va _), (kb, .int vb _)]) o := fun d h e => ⟨o, es, ep, e, h1, h2, h3, h4, h5⟩
  exact h _ _ _ _ (R.add (get?_size _) (fun b o e => hs.extBut b o (Nat.ne_of_lt (Heap.lt_size e)) (Heap.get?_push_of_some _ e)) ho hc)
theorem w_itemS {value slice : Expr} {d : Addr} {kvs : List (Str × Value)} {x : Str} {v : Value} {Q : Value → Shared → Prop} (R : Rep G σ s) (hm : Holds G σ d (isDictS G kvs)) (hv : valueAt kvs x = some v) (h : ∀ s', Rep G σ s' → Q v s')
    (hs : subscripted slice false (.ref d) (.str x t) = operate [.ref d, .str x t] (getItem (.ref d) (.str x t)) := by with_unfolding_all rfl) :
    wpAny (model G.prog G.w) A (subscriptTail value slice (.ref d) (.str x t)) Q E s := by
  obtain ⟨o, ho, hd⟩ := R.cellH hm
  have hd := hd _ _ ho
  exact tail_any hd.typeIs PySem.F.slot_dict_getitem.lookup (wpAny_getItem_of (strKind_is ..) hd.mapOf hv (h _ R.toks)) hs

/-! a built-in exception raised -/
theorem rep_made {e : Addr} {c : String} {vs : List Value} {h' : Heap} (R : Rep G σ s) (x : Heap.MadeExc s.heap h' e c vs) : Rep G ((e, isExc0 (.type c)) :: σ) { s with heap := h' } := by
  obtain ⟨t, ht, _⟩ := x.there
  exact R.add x.new x.keeps ht ⟨rfl, _, rfl, rfl⟩
theorem rep_madeOf {e : Addr} {c : Value} {vs : List Value} {h' : Heap} (R : Rep G σ s) (x : Heap.MadeExcOf s.heap h' e c vs) : Rep G ((e, isExc0 c) :: σ) { s with heap := h' } := by
  obtain ⟨t, ht, _⟩ := x.there
  exact R.add x.new x.keeps ht ⟨rfl, _, rfl, rfl⟩
end
end Bl

end
section
open PySem PySem.W PyProof.Rows PySem.Calls PyProof
set_option Elab.async false
set_option maxRecDepth 100000
set_option linter.unusedVariables false
namespace Bl
section
variable {KP : Params → Frag} {G : Gd KP} {A : Around} {E : Value → Shared → Prop} {σ τ : Led} {s s' : Shared} {env : Env} {L : Addr} {u t v : Tok} {a b : Int}
theorem x_range3 {args : List Value} {n c : Int} {Q : Value → Shared → Prop} (R : Rep G σ s) (hc : c ≠ 0) (hc2 : c.natAbs < 1073741824) (h : ∀ r s', Rep G ((r, isRng a n c) :: σ) s' → Q (.ref r) s') (ha : args = [.int a t, .int n u, .int c v] := by with_unfolding_all rfl) : wpAny (model G.prog G.w) A (call (.type "range") args) Q E s := by
  subst ha
  exact call_range_3 hc (h _ _ (R.push _ ⟨_, _, _, rfl⟩)) (hp := .inl (PyProof.noPylong_small hc2))
theorem w_itemSI {value slice : Expr} {d : Addr} {kvs : List (Str × Value)} {x : Str} {n : Int} {Q : Value → Shared → Prop} (R : Rep G σ s) (hm : Holds G σ d (isDictS G kvs)) (hv : ∃ w, valueAt kvs x = some (.int n w)) (h : ∀ t s', Rep G σ s' → Q (.int n t) s')
    (hs : subscripted slice false (.ref d) (.str x t) = operate [.ref d, .str x t] (getItem (.ref d) (.str x t)) := by with_unfolding_all rfl) :
    wpAny (model G.prog G.w) A (subscriptTail value slice (.ref d) (.str x t)) Q E s := let ⟨w, hv⟩ := hv; w_itemS R hm hv (h w) hs
theorem Wk.bound {I : Addr} {n : Nat} {P : Nat → Value → Prop} (W : Wk G I n P s) : Wk G I n (fun i v => i < n ∧ P i v) s := by
  obtain ⟨fp, St, h1, h2, h3⟩ := W.wk
  refine ⟨W.nt, W.ng, W.nb, ⟨fp, St, fun A' hA => ?_, h2, h3⟩, W.ex⟩
  have W' := h1 A' hA
  exact ⟨W'.sub, W'.frame, fun i s Q E hi st hQ => W'.item i s Q E hi st fun v h' tk hP => hQ v h' tk ⟨hi, hP⟩, W'.done, W'.self⟩
theorem bits_le {x : Int} {k : Nat} (h : x.natAbs < 2 ^ k) : Builtin.Int.intBits x ≤ k := by
  unfold Builtin.Int.intBits
  split
  · exact Nat.zero_le _
  · rename_i hx
    have hx' : x.natAbs ≠ 0 := by simpa using hx
    exact (Nat.log2_lt hx').mpr h
theorem bits_pos {x : Int} (h : 0 < x) : 0 < Builtin.Int.intBits x := by
  unfold Builtin.Int.intBits
  rw [if_neg (by simp; omega)]
  exact Nat.succ_pos _
theorem two_bits {x : Int} (h : 0 < x) : (2 : Int) ^ ((Builtin.Int.intBits x : Int) - 1).toNat ≤ x := by
  unfold Builtin.Int.intBits
  rw [if_neg (by simp; omega)]
  have h1 : (((x.natAbs.log2 + 1 : Nat) : Int) - 1).toNat = x.natAbs.log2 := by omega
  rw [h1]
  have h2 := Nat.log2_self_le (show x.natAbs ≠ 0 by omega)
  have h3 : ((2 ^ x.natAbs.log2 : Nat) : Int) ≤ (x.natAbs : Int) := Int.ofNat_le.mpr h2
  push_cast at h3
  omega
theorem log_small {x : Int} {k : Nat} (hx : x ≠ 0) (h : x.natAbs < 2 ^ k) (hk : k ≤ 9000) : x.natAbs.log2 < 9000 :=
  Nat.lt_of_lt_of_le ((Nat.log2_lt (by omega)).mpr h) hk
/-- the number that estimate_elements shifts -/
theorem est_tmp {m d : Int} (hd : 0 < d) (hm : d ≤ m) : 0 < m.fdiv d ∧ 0 < d * 2 ^ ((Builtin.Int.intBits (m.fdiv d) : Int) - 1).toNat ∧ d * 2 ^ ((Builtin.Int.intBits (m.fdiv d) : Int) - 1).toNat ≤ m := by
  have e := Int.fdiv_eq_ediv_of_nonneg m (show (0:Int) ≤ d by omega)
  have h1 : 1 ≤ m / d := (Int.le_ediv_iff_mul_le hd).mpr (by omega)
  have h2 := two_bits (x := m.fdiv d) (by rw [e]; omega)
  have h3 : (0 : Int) < 2 ^ ((Builtin.Int.intBits (m.fdiv d) : Int) - 1).toNat := Int.pow_pos (by decide)
  refine ⟨by rw [e]; omega, Int.mul_pos hd h3, ?_⟩
  have h4 : d * 2 ^ ((Builtin.Int.intBits (m.fdiv d) : Int) - 1).toNat ≤ d * m.fdiv d := Int.mul_le_mul_of_nonneg_left h2 (by omega)
  have h5 : d * (m / d) ≤ m := Int.mul_ediv_self_le (by omega)
  rw [e] at h4 ⊢
  rw [e] at h2
  omega
theorem pow_abs_le {x : Int} {B n N : Nat} (h : x.natAbs ≤ B) (hB : 1 ≤ B) (hn : n ≤ N) : (x ^ n).natAbs ≤ B ^ N := by
  rw [Int.natAbs_pow]
  exact Nat.le_trans (Nat.pow_le_pow_left h n) (Nat.pow_le_pow_right hB hn)
end
end Bl

end
section
open PySem PySem.W PyProof.Rows PySem.Calls PyProof
set_option Elab.async false
set_option maxRecDepth 100000
set_option linter.unusedVariables false
namespace Bl
section
variable {KP : Params → Frag} {G : Gd KP} {A : Around} {E : Value → Shared → Prop} {σ τ : Led} {s s' : Shared} {env : Env} {L : Addr} {u t v : Tok} {a b : Int}
theorem w_eqI {l l' : Addr} {ns ms : List Int} {Q : Value → Shared → Prop} (R : Rep G σ s) (h1 : Holds G σ l (isInts ns)) (h2 : Holds G σ l' (isInts ms)) (hu : A.units + 64 < cLine) (h : Q (.bool (decide (ns = ms))) s) :
    wpAny (model G.prog G.w) A (compareOp .Eq (.ref l) (.ref l')) Q E s := by
  obtain ⟨o, ho, vs, hi, hl⟩ := R.cellH h1
  obtain ⟨o', ho', vs', hi', hl'⟩ := R.cellH h2
  exact eq_intsK (isLst.lst ⟨o, ho, hl⟩) hi (isLst.lst ⟨o', ho', hl'⟩) hi' hu h
theorem w_neI {l l' : Addr} {ns ms : List Int} {Q : Value → Shared → Prop} (R : Rep G σ s) (h1 : Holds G σ l (isInts ns)) (h2 : Holds G σ l' (isInts ms)) (hu : A.units + 64 < cLine) (h : Q (.bool (!decide (ns = ms))) s) :
    wpAny (model G.prog G.w) A (compareOp .NotEq (.ref l) (.ref l')) Q E s := by
  obtain ⟨o, ho, vs, hi, hl⟩ := R.cellH h1
  obtain ⟨o', ho', vs', hi', hl'⟩ := R.cellH h2
  exact ne_intsK (isLst.lst ⟨o, ho, hl⟩) hi (isLst.lst ⟨o', ho', hl'⟩) hi' hu h
theorem w_notb {M : Model} {b : Bool} {Q : Value → Shared → Prop} (h : Q (.bool (!b)) s) : wpAny M A (unaryOp .Not (.bool b)) Q E s := not_of (wpAny_truthy_bool h)
/-- or of three values already held in names -/
theorem ite_or {b : Bool} {X : Bool → Prop} {Y : Prop} (h1 : b = true → X true) (h2 : b = false → Y) : if b = true then X b else Y := by cases b <;> simp_all
theorem du {A : Around} {env : Env} : (A.deeper env).units = A.units + 3 := rfl
end
end Bl

end
section
open PySem PySem.W PyProof.Rows PySem.Calls PyProof
set_option Elab.async false
set_option maxRecDepth 100000
set_option linter.unusedVariables false
namespace Bl
section
variable {KP : Params → Frag} {G : Gd KP} {A : Around} {E : Value → Shared → Prop} {σ τ : Led} {s s' : Shared} {env : Env} {L : Addr} {u t v : Tok} {a b : Int}
theorem c_make {C fI : Addr} {rest : List Value} {kw : List (Str × Value)} {R' : Result → Shared → Prop} (n : Nat) (R : Rep G σ s)
    (h : ∀ x dx s', Rep G ((x, obj C dx (List.replicate n .no)) :: (dx, isAny) :: σ) s' → codeAny (model G.prog G.w) (A.under (.builtin "type.__call__" ⟨.ref C :: rest, kw⟩)) (.call (.ref fI) ⟨.ref x :: rest, kw⟩) (InitBack x R') s')
    (hm : makesIn G.K C = true := by kernel_rfl) (hi : findIn G.K (.ref C) "__init__" = some (some (.ref fI)) := by kernel_rfl) (hf : typeIn G.K (.ref fI) = some (.type "function") := by kernel_rfl) :
    codeAny (model G.prog G.w) A (.call (.ref C) ⟨rest, kw⟩) R' s := by
  have X := R.inK
  have R1 := R.push (c := isAny) (t := s.toks) emptyDict rfl
  have R2 := R1.push (c := obj C s.heap.objs.size (List.replicate n .no)) (t := s.toks) (instObj C s.heap.objs.size) ⟨#[], rfl, fun i => by
    rw [List.getD_eq_getElem?_getD, List.getElem?_replicate]
    split <;> exact rfl⟩
  have h2 := h _ s.heap.objs.size _ R2
  rw [show (s.heap.push emptyDict).objs.size = s.heap.objs.size + 1 from Heap.size_push ..] at h2
  obtain ⟨hh, g, d, t, os⟩ := s
  exact make_core (makes_of X hm) (looks_findIn X hi) (fun self => bind_fn X self hf) (.inl rfl) h2
end
end Bl

end
section
open PySem PySem.W PyProof.Rows PySem.Calls PyProof
set_option Elab.async false
set_option maxRecDepth 100000
set_option linter.unusedVariables false
namespace Bl
section
variable {KP : Params → Frag} {G : Gd KP} {A : Around} {E : Value → Shared → Prop} {σ : Led} {s : Shared}
theorem c_defAt {f : Addr} {o : Obj} {fd : FuncData} {body : List Stmt} {args : Args} {binds : List (Str × Value)} {R : Result → Shared → Prop} (R₀ : Rep G σ s) (ho : s.heap.get? f = some o) (hd : o.data = .func fd)
    (hcd : s.heap.CodeRec fd.code fd.qualname) (hbody : fd.body = .stmts body) (hbind : BindsTo s fd args binds)
    (hroom : A.depth < recursionLimit)
    (h : ∀ L s', Rep G ((L, isNs (frame0 fd.scope binds)) :: σ) s' → s.heap.objs.size = L →
      PySem.wpAt (model G.prog G.w) (A.deeper (callEnv fd L f)) (.func body (callEnv fd L f)) (execs body (callEnv fd L f)) (fun fl s'' => R (.ok (.ret (match fl with | .ret v => v | _ => .none))) s'') (leaveE G A (callEnv fd L f) R) s')
    (hcell : (fd.scope.names.all fun p => p.2 != .cell) = true) (hloc : ((binds.map (·.1)).all fun x => fd.scope.names.lookup x == some .local) = true) (hnb : (binds.map (·.1)).Nodup)
    (hnd : ((frame0 fd.scope binds).map (·.1)).Nodup)
    (hco : fd.scope.isCoroutine = false) (hgen : fd.scope.isGenerator = false) (hk : fd.scope.kind = .function) :
    codeAny (model G.prog G.w) A (.call (.ref f) args) R s := by
  have hl : ∀ x ∈ binds, fd.scope.names.lookup x.1 = some .local := fun x hx => by have := List.all_eq_true.mp hloc x.1 (List.mem_map_of_mem hx); simpa using this
  refine ks_codeAny_call_defAt hroom ho hd R₀.lim hcd hbody hbind (fun x hx => by have := List.all_eq_true.mp hcell x hx; simpa using this) hl (fun h₀ hns hk' => ?_) hco hgen hk
  have key : ∀ y, binds.reverse.lookup y = look (frame0 fd.scope binds) y := fun y => by
    rw [← look_frame0 hnb]
    have hr : (binds.reverse.map (·.1)).Nodup := by rw [List.map_reverse]; exact (List.pairwise_reverse.mpr (hnb.imp fun h => Ne.symm h))
    cases e : binds.lookup y with
    | some v =>
      dsimp only
      rw [if_pos (hl _ (mem_of_lookup e)), lookup_of_mem hr (List.mem_reverse.mpr (mem_of_lookup e))]
    | none =>
      cases e' : binds.reverse.lookup y with
      | none => rfl
      | some v =>
        have := lookup_of_mem hnb (List.mem_reverse.mp (mem_of_lookup e'))
        rw [e] at this; cases this
  obtain ⟨o', h1, h2⟩ := isNs.of hns hnd key
  exact h _ _ (R₀.add (s' := { s with heap := h₀, toks := s.toks + binds.length }) (get?_size _) hk' h1 h2) rfl

theorem c_KAt {f : Addr} {oc : Value} {od : Option Addr} {sl : Array (Option Value)} {name qual : Str} {params : Arguments} {body : List Stmt} {sc : Scope} {gl bi : Addr} {cl : List (Str × Addr)} {df kdf doc pm cd ct : Value} {an : Option Addr}
    {args : Args} {R : Result → Shared → Prop} (binds : List (Str × Value)) (ρ : List (Str × Option Value)) (R₀ : Rep G σ s) (hroom : A.depth < recursionLimit)
    (ho : G.K.lookup f = some ⟨oc, od, .func { name := name, qualname := qual, params := params, body := .stmts body, scope := sc, globals := gl, closure := cl, defaults := df, kwdefaults := kdf, doc := doc, pyModule := pm, annotations := an, code := cd, closureTuple := ct, builtins := bi }, sl⟩)
    (hbind : G.K.In s.heap → BindsTo s { name := name, qualname := qual, params := params, body := .stmts body, scope := sc, globals := gl, closure := cl, defaults := df, kwdefaults := kdf, doc := doc, pyModule := pm, annotations := an, code := cd, closureTuple := ct, builtins := bi } args binds)
    (h : ∀ L s' env, Rep G ((L, isNs ρ) :: σ) s' → EnvIs env sc L cl cd → env.frame = some L → env.func = some f ∧ env.qual = qual ++ ".<locals>." →
      PySem.wpAt (model G.prog G.w) (A.deeper env) (.func body env) (execs body env) (fun fl s'' => R (.ok (.ret (match fl with | .ret v => v | _ => .none))) s'') (leaveE G A env R) s')
    (hρ : frame0 sc binds = ρ := by rfl) (hgl : gl = mainGlobals := by rfl) (hbi : bi = builtinsNs := by rfl) (hcd : codeIn G.K cd qual = true := by kernel_rfl)
    (hcell : (sc.names.all fun p => p.2 != .cell) = true := by kernel_rfl) (hloc : ((binds.map (·.1)).all fun x => sc.names.lookup x == some .local) = true := by kernel_rfl)
    (hnb : nodupB (binds.map (·.1)) = true := by kernel_rfl) (hnd : nodupB (ρ.map (·.1)) = true := by kernel_rfl)
    (hco : sc.isCoroutine = false := by kernel_rfl) (hgen : sc.isGenerator = false := by kernel_rfl) (hk : sc.kind = .function := by kernel_rfl) :
    codeAny (model G.prog G.w) A (.call (.ref f) args) R s := by
  subst hρ
  exact c_defAt R₀ (R₀.inK _ _ ho) rfl (codeRec_of R₀.inK hcd) rfl (hbind R₀.inK) hroom (fun L s' R' e => h L s' _ R' ⟨rfl, rfl, hgl, hbi, rfl, rfl, hk⟩ rfl ⟨rfl, rfl⟩) hcell hloc (nodup_of_B hnb) (nodup_of_B hnd) hco hgen hk

end
end Bl

end
section
open PySem PySem.W PyProof.Rows PySem.Calls PyProof
set_option Elab.async false
set_option maxRecDepth 100000
set_option linter.unusedVariables false
namespace Bl
section
variable {KP : Params → Frag} {G : Gd KP} {A : Around} {E : Value → Shared → Prop} {σ : Led} {s : Shared} {env : Env} {L : Addr} {ρ : List (Str × Option Value)} {sc : Scope} {cl : List (Str × Addr)} {cd : Value}

def isSup (D x C : Addr) : Cell := fun o => o = ks_superObj D x C
def isMeth (f : Addr) (x : Value) : Cell := fun o => o = methodObj (.ref f) x

theorem w_superNode {body : List Stmt} {p0 p1 : Pos} {attr : Str} {whole : Sem Value} {f cc cda x C D dx : Addr} {svs : List SV} {fd : FuncData} {ar : Arg} {vs : Array Value} {file : Str} {tf : Tok} {oc ccl clv : Value} {od cdd cld : Option Addr} {osl ccs csl : Array (Option Value)} {cdD : ClassData} {Q : Value → Shared → Prop}
    (R : Rep G σ s) (he : EnvIs env sc L cl (.ref cda)) (hfn : env.func = some f) (hL : Holds G σ L (isNs ρ)) (hX : Holds G σ x (obj C dx svs)) (hcl : (("__class__" : Str), cc) ∈ cl) (hnc : nodupB (cl.map (·.1)) = true)
    (hf : G.K.lookup f = some ⟨oc, od, .func fd, osl⟩) (hp : (fd.params.posonlyargs ++ fd.params.args).head? = some ar) (hv : (ar.arg, some (.ref x)) ∈ ρ)
    (hcode : G.K.lookup cda = some ⟨ccl, cdd, .fields vs, ccs⟩) (hvs : vs[2]? = some (.str file tf)) (hfile : ((G.prog.main.file : Str) == file) = true) (htop : (G.prog.main.scope.names.lookup ("super" : Str)).isSome = false)
    (hcell : G.K.lookup cc = some ⟨clv, cld, .cell (some (.ref D)), csl⟩) (hD : clsIn G.K D = some cdD) (hsub : mroIn G.K C (.ref D) = some true) (hsuper : nsIn G.K mainGlobals "super" = some none)
    (hat : (attr == ("__class__" : Str)) = false) (hks : sc.names.lookup ("super" : Str) = some .globalImplicit) (hkc : sc.names.lookup ("__class__" : Str) = some .free) (hka : sc.names.lookup ar.arg = some .local)
    (h : ∀ so s', Rep G ((so, isSup D x C) :: σ) s' → Q (.ref so) s') :
    PySem.wpAt (model G.prog G.w) A (.func body env) (attributeBase (.Call (.Name "super" p0) [] [] p1) attr env whole) Q E s := by
  have X : G.K.In s.heap := R.inK
  obtain ⟨ox, hox, sl, rfl, _⟩ := R.cellH hX
  have hns := isNs.ns (R.cellH hL)
  have hnd : (ρ.map (·.1)).Nodup := let ⟨o, _, hn, _⟩ := R.cellH hL; hn
  have hns' : s.heap.Ns env.locals (look ρ) := by rw [he.locals]; exact hns
  have hlk : look ρ ar.arg = some (.ref x) := by simp [look, lookup_of_mem hnd hv]
  obtain ⟨oD, hD1, hD2⟩ : ∃ oD, s.heap.get? D = some oD ∧ oD.data = .cls cdD := by
    unfold clsIn at hD
    split at hD
    · rename_i c d cd' sl ho
      cases hD
      exact ⟨_, X _ _ ho, rfl⟩
    · cases hD
  refine ks_wpAt_super_base (he.kindOf hks) (he.kindOf hkc) hat hfn (X _ _ hf) rfl hp he.code (X _ _ hcode) rfl hvs hfile htop ?_
  refine ks_loadName_global he.kind (he.kindOf hks) (loadGlobal_builtin (he.globals ▸ R.glob) (mg_none_of R.inK R.glob hsuper) (he.builtins ▸ R.bt) ((G.bi _ (by decide +kernel)).trans (show bootBuiltins "super" = some (.type "super") by kernel_rfl)) ⟨rfl, ?_⟩)
  refine wpAny_loadName_free he.kind (he.kindOf hkc) (by rw [he.cells]; exact lookup_of_mem (nodup_of_B hnc) hcl) ⟨_, X _ _ hcell, rfl⟩ ?_
  refine wpAny_loadName_local he.kind (he.kindOf hka) hns' hlk ?_
  obtain ⟨hh, g, d, t, os⟩ := s
  refine ks_wpAny_isType_cls hD1 hD2 ⟨rfl, ?_⟩
  refine ks_wpAny_call_super hD1 hD2 hox rfl (fun c e => by cases e) (looks_mroIn X hsub) (fun h' e k => ?_)
  exact h _ _ (R.add (get?_size _) k e rfl)

theorem w_superMeth {name : Str} {pl : Sem Bool} {so D x C dx f2 : Addr} {svs : List SV} {Q : Value × List Value → Shared → Prop} (R : Rep G ((so, isSup D x C) :: σ) s) (hX : Holds G σ x (obj C dx svs)) (hdx : Holds G σ dx isAny)
    (ho : nsIn G.K cStatics "thirdparty.any" = some none) (hm : ks_superIn G.K C D name = some (some (.ref f2))) (ht : typeIn G.K (.ref f2) = some (.type "function")) (hn : (name == ("__class__" : Str)) = false)
    (h : ∀ q s', Rep G ((q, isMeth f2 (.ref x)) :: σ) s' → Q (.ref q, []) s') : wpAny (model G.prog G.w) A (getMethod (.ref so) name pl) Q E s := by
  have X : G.K.In s.heap := R.inK
  obtain ⟨ox, hox, sl, rfl, _⟩ := R.cellH hX.tail
  obtain ⟨od, hod, rfl⟩ := R.cellH hdx.tail
  obtain ⟨os', hso, rfl⟩ := R.cells _ (.head _)
  have I := instAt hox hod
  cases hc : clsIn G.K C with
  | none => unfold ks_superIn at hm; rw [hc] at hm; cases hm
  | some cd =>
    unfold ks_superIn at hm
    rw [hc] at hm
    obtain ⟨of, hof, hofc⟩ : ∃ of, s.heap.get? f2 = some of ∧ of.cls = .type "function" := by
      have ht' : (G.K.lookup f2).map (·.cls) = some (.type "function") := ht
      cases z : G.K.lookup f2 with
      | none => rw [z] at ht'; cases ht'
      | some of => rw [z] at ht'; exact ⟨of, X _ _ z, Option.some.inj ht'⟩
    obtain ⟨hh, g, d, t, os⟩ := s
    refine ks_wpAny_getMethod_super hso (looks_opaque X ho) (l₀ := cd.mro) ?_ rfl X hm hof hofc (ks_ne X I hc) hn ?_
    · exact fun A Q E s k q => wpAny_bind ((looks_clsIn X hc) A _ E s k (wpAny_pure q))
    · exact h _ _ (R.drop1.push (c := isMeth f2 (.ref x)) (t := t + 1) (methodObj (.ref f2) (.ref x)) rfl)

theorem c_bound {b f : Addr} {x : Value} {a : Args} {R' : Result → Shared → Prop} (R : Rep G σ s) (hm : Holds G σ b (isMeth f x)) (hq : codeAny (model G.prog G.w) A (.call (.ref f) { a with pos := x :: a.pos }) R' s) : codeAny (model G.prog G.w) A (.call (.ref b) a) R' s := by
  obtain ⟨o, ho, rfl⟩ := R.cellH hm
  exact ks_codeAny_call_bound ho hq
end
end Bl

end
section
open PySem PySem.W PyProof.Rows PySem.Calls PyProof
set_option Elab.async false
set_option maxRecDepth 100000
set_option linter.unusedVariables false
namespace Bl
section
variable {KP : Params → Frag} {G : Gd KP} {A : Around} {E : Value → Shared → Prop} {σ : Led} {s : Shared} {env : Env}
def isTplX (cs : List Value) : Cell := fun o => o = { cls := .type "tuple", data := .seq cs.toArray }
theorem w_TupleX {elts : List Expr} {k : Nat} {pos : Pos} {Q : Value → Shared → Prop} (h : wpAny (model G.prog G.w) A (spliced (backTo pos (starEach elts env))) (fun vs s₁ => vs.length ≤ sizeLine ∧ ∃ σ', Rep G σ' s₁ ∧ ∀ l s', Rep G ((l, isTplX vs) :: σ') s' → Q (.ref l) s') E s) :
    wpAny (model G.prog G.w) A (eval (.Tuple elts k pos) env) Q E s :=
  wpAny_Tuple (wpAny_mono h (fun vs s₁ ⟨hz, σ', R, h'⟩ => ⟨hz, h' _ _ (R.push (c := isTplX vs) { cls := .type "tuple", data := .seq vs.toArray } rfl)⟩) fun _ _ x => x)
theorem w_isi3 {n : Int} {t : Tok} {tp : Addr} {args : List Value} {Q : Value → Shared → Prop} (R : Rep G σ s) (hm : Holds G σ tp (isTplX [.type "int", .type "float", .type "complex"])) (h : ∀ s', Rep G σ s' → Q (.bool true) s') (ha : args = [.int n t, .ref tp] := by with_unfolding_all rfl) :
    wpAny (model G.prog G.w) A (call (.builtin "isinstance") args) Q E s := by
  subst ha
  obtain ⟨o, ho, rfl⟩ := R.cellH hm
  refine call_isinstance (isinstance_tuple (Tx := "int") (cs := [.type "int", .type "float", .type "complex"]) (vs := [true, false, false]) ⟨Answers.of_true (by kernel_rfl) (by rw [isSubtype_type]; kernel_rfl), Answers.of_false_int (by decide) (by kernel_rfl) (by rw [isSubtype_type]; kernel_rfl), Answers.of_false_int (by decide) (by kernel_rfl) (by rw [isSubtype_type]; kernel_rfl), trivial⟩) ⟨typeIs_int s n t, ho, fun tk => ?_⟩
  exact h _ R.toks
end
end Bl

end
section
open PySem PySem.W PyProof.Rows PySem.Calls PyProof
set_option Elab.async false
set_option maxRecDepth 100000
set_option linter.unusedVariables false
namespace Bl
section
variable {KP : Params → Frag} {G : Gd KP} {A : Around} {E : Value → Shared → Prop} {σ : Led} {s : Shared} {env : Env}
theorem w_assign3 {x1 x2 x3 : Str} {p1 p2 p3 tp : Pos} {k : Nat} {l : Addr} {v1 v2 v3 : Value} {Q : Unit → Shared → Prop} (hA : A.handled = none) (R : Rep G σ s) (hm : Holds G σ l (isTplX [v1, v2, v3]))
    (h : ∀ s', Rep G σ s' → wpAny (model G.prog G.w) A (storeName env x1 v1) (fun _ s₁ => wpAny (model G.prog G.w) A (storeName env x2 v2) (fun _ s₂ => wpAny (model G.prog G.w) A (storeName env x3 v3) Q E s₂) E s₁) E s') :
    wpAny (model G.prog G.w) A (assign (.Tuple [.Name x1 p1, .Name x2 p2, .Name x3 p3] k tp) env (.ref l)) Q E s := by
  obtain ⟨o, ho, rfl⟩ := R.cellH hm
  refine wpAny_assign_Tuple hA (items := #[v1, v2, v3]) ⟨_, ho, rfl, _, rfl⟩ rfl rfl fun h' hx => ?_
  have R1 := R.ext (s' := { s with heap := h' }) fun b o e => hx b o (Nat.ne_of_lt (Heap.lt_size e)) e
  show wpAny _ A (do holding [v2, v3] (assign (.Name x1 p1) env v1); do holding [v3] (assign (.Name x2 p2) env v2); do holding [] (assign (.Name x3 p3) env v3); pure ()) _ _ _
  refine wpAny_bind (wpAny_holding (PySem.wpAny_assign_Name (wpAny_mono (h _ R1) (fun _ s₁ h₁ => ?_) fun _ _ x => x)))
  refine wpAny_bind (wpAny_holding (PySem.wpAny_assign_Name (wpAny_mono h₁ (fun _ s₂ h₂ => ?_) fun _ _ x => x)))
  exact wpAny_bind (wpAny_holding (PySem.wpAny_assign_Name (wpAny_mono h₂ (fun _ s₃ h₃ => wpAny_pure h₃) fun _ _ x => x)))
theorem w_swap3 {x1 x2 x3 : Str} {l : Addr} {v1 v2 v3 : Value} {Q : Unit → Shared → Prop} (hA : A.handled = none) (R : Rep G σ s) (hm : Holds G σ l (isTplX [v1, v2, v3]))
    (h : ∀ s', Rep G σ s' → wpAny (model G.prog G.w) A (storeName env x3 v3) (fun _ s₁ => wpAny (model G.prog G.w) A (storeName env x2 v2) (fun _ s₂ => wpAny (model G.prog G.w) A (storeName env x1 v1) Q E s₂) E s₁) E s') :
    wpAny (model G.prog G.w) A (unpackItems (.ref l) [x1, x2, x3].length none) (fun items s₂ => wpAny (model G.prog G.w) A (assignInOrder ([x1, x2, x3].reverse.map fun n => bindName env n) items.reverse) Q E s₂) E s := by
  obtain ⟨o, ho, rfl⟩ := R.cellH hm
  refine wpAny_unpackItems_tuple (items := #[v1, v2, v3]) hA ⟨_, ho, rfl, _, rfl⟩ fun h' hx => ?_
  have R1 := R.ext (s' := { s with heap := h' }) fun b o e => hx b o (Nat.ne_of_lt (Heap.lt_size e)) e
  show wpAny _ A (assignInOrder [fun v => bindName env x3 v, fun v => bindName env x2 v, fun v => bindName env x1 v] [v3, v2, v1]) Q E _
  refine wpAny_assignInOrder_more (wpAny_bindName (wpAny_mono (h _ R1) (fun _ s₁ h₁ => ?_) fun _ _ x => x))
  refine wpAny_assignInOrder_more (wpAny_bindName (wpAny_mono h₁ (fun _ s₂ h₂ => ?_) fun _ _ x => x))
  exact wpAny_assignInOrder_more (wpAny_bindName (wpAny_mono h₂ (fun _ s₃ h₃ => wpAny_assignInOrder_none h₃) fun _ _ x => x))
end
end Bl

end
section
open PySem PySem.W PyProof.Rows PySem.Calls PyProof PySem.Builtin PySem.Builtin.ObjectAttr PySem.Builtin.Getset_descriptor
set_option Elab.async false
set_option maxRecDepth 100000
set_option linter.unusedVariables false
namespace Bl
section
variable {KP : Params → Frag} {G : Gd KP} {A : Around} {E : Value → Shared → Prop} {σ : Led} {s : Shared} {env : Env}
def cmOk (K : Frag) (C : Addr) (name : Str) (f : Addr) : Bool :=
  plainGet K C name && usualOk K C name && (match findObj K C (some emptyDict) name with
    | some (.bind (.builtin g) (.ref p)) => g == "classmethod.__get__" && (match recIn K p "classmethod" with | some (.ref f' :: _) => f' == f | _ => false)
    | _ => false)
/-- a classmethod reached through an object -/
theorem w_methcm {x C dx f : Addr} {svs : List SV} {name : Str} {pl : Sem Bool} {Q : Value × List Value → Shared → Prop} (R : Rep G σ s) (hm : Holds G σ x (obj C dx svs)) (hdx : Holds G σ dx isAny)
    (hs : cmOk G.K C name f = true) (h : ∀ q s', Rep G ((q, isMeth f (.ref C)) :: σ) s' → Q (.ref q, []) s') : wpAny (model G.prog G.w) A (getMethod (.ref x) name pl) Q E s := by
  obtain ⟨od', hod, rfl⟩ := R.cellH hdx
  obtain ⟨o, ho, sl, rfl, hok⟩ := R.cellH hm
  unfold cmOk at hs
  simp only [Bool.and_eq_true] at hs
  obtain ⟨⟨h1, h2⟩, h3⟩ := hs
  refine w_usual R hm hdx h1 h2 ?_
  split at h3
  · rename_i g p hf
    simp only [Bool.and_eq_true, beq_iff_eq] at h3
    obtain ⟨rfl, h4⟩ := h3
    split at h4
    · rename_i f' rest hr
      rw [beq_iff_eq] at h4
      subst h4
      have R1 := (R.toks (t := s.toks + 1)).push (c := isMeth f' (.ref C)) (t := s.toks + 1) (methodObj (.ref f') (.ref C)) rfl
      refine get_bind R.inK (instAt ho hod) (plainGet_of h1).1 hf (plainGet_of h1).2 (wpAny_call (cm_get (s := { s with toks := s.toks + 1 }) R.inK hr (handed_on rfl (h _ _ R1))))
    · cases h4
  · cases h3
end
end Bl

end
section
open PySem PySem.W PyProof.Rows PySem.Calls PyProof
set_option Elab.async false
set_option maxRecDepth 100000
set_option linter.unusedVariables false
namespace Bl
section
variable {KP : Params → Frag} {G : Gd KP} {A : Around} {E : Value → Shared → Prop} {σ : Led} {s : Shared} {env : Env}
theorem ints_rep (v : Int) (t : Tok) : ∀ n : Nat, IntsAre (List.replicate n (.int v t)) (List.replicate n v)
  | 0 => .nil
  | n + 1 => by rw [List.replicate_succ, List.replicate_succ]; exact .cons _ _ (ints_rep v t n)
/-- `[v] * x` -/
theorem w_mulL {l : Addr} {v x : Int} {t u : Tok} {Q : Value → Shared → Prop} (R : Rep G σ s) (hm : Holds G σ l (isLst [.int v t])) (hx0 : 0 ≤ x) (hx : x ≤ 2 ^ 20)
    (h : ∀ l' s', Rep G ((l', isInts (List.replicate x.toNat v)) :: σ) s' → Q (.ref l') s') :
    wpAny (model G.prog G.w) A (binaryOp .Mult (.ref l) (.int x u)) Q E s := by
  obtain ⟨o, ho, hcls, n, hdat⟩ := R.cellH hm
  obtain ⟨c, d, dat, sl⟩ := o
  dsimp only at hcls hdat
  subst hcls; subst hdat
  refine wpAny_binaryOp_repeat_ref (T := "list") (U := "int") (by decide) ⟨_, ho, rfl⟩ (fun s' => typeIs_int s' x u) noFill_list_mul F.fills_int_mul F.slot_int_rmul repeat_list F.slot_int_index.lookup
    (call_meets F.slot_int_rmul (typeIs_int s x u) F.entry_int_rmul (F.args_int_rmul_2 _ _) (lm_int_rmul_list_any x u l _ n d sl)
      ⟨ho, rfl, ⟨_, ho, rfl⟩, call_meets F.slot_list_mul ⟨_, ho, rfl⟩ F.entry_list_mul (F.args_list_mul_2 _ _)
        (lm_list_mul_any l _ n d sl x u (by simp [Builtin.List.listFitsIndex]; omega) (by simp; omega) (by simp [Builtin.List.listTooLong, sizeLine]; omega))
        ⟨ho, ?_⟩⟩)
  have hr : IntsAre ((List.replicate x.toNat [Value.int v t]).flatten) (List.replicate x.toNat v) := by
    rw [lm_rep_flat_one]; exact ints_rep v t _
  refine h _ _ (R.push (c := isInts (List.replicate x.toNat v)) (t := s.toks) _ ⟨_, hr, rfl, 0, ?_⟩)
  simp [listMul_foldl]
end
end Bl

end
section
open PySem PySem.W PyProof.Rows PySem.Calls PyProof
set_option Elab.async false
set_option maxRecDepth 100000
set_option linter.unusedVariables false
namespace Bl
section
variable {KP : Params → Frag} {G : Gd KP} {A : Around} {E : Value → Shared → Prop} {σ : Led} {s : Shared} {env : Env}
theorem looksIsType {K : Frag} {M : Model} {h : Heap} {C : Addr} (X : K.In h) (hc : (clsIn K C).isSome = true) : Looks M h (isType (.ref C)) true := by
  unfold clsIn at hc
  split at hc
  · rename_i ho
    intro A Q E s k q
    have hk := k _ _ (X _ _ ho)
    unfold isType loadHead
    exact wpAny_bind (wpAny_loadPart hk (wpAny_pure q))
  · cases hc
/-- an object is of that class -/
theorem w_isiYes {x C D dx : Addr} {svs : List SV} {args : List Value} {Q : Value → Shared → Prop} (R : Rep G σ s) (hm : Holds G σ x (obj D dx svs)) (ok : isIn G.K (.ref D) C = true) (h : Q (.bool true) s) (ha : args = [.ref x, .ref C] := by with_unfolding_all rfl) :
    wpAny (model G.prog G.w) A (call (.builtin "isinstance") args) Q E s := by
  subst ha
  obtain ⟨o, ho, sl, rfl, hok⟩ := R.cellH hm
  exact isi_call R.inK (fun M => (Looks.ld ho).andThen .now) ok (fun e => by cases e) h

def isiNotOk (K : Frag) (D C : Addr) : Bool :=
  !(Value.ref D == Value.ref C) && (clsIn K C).isSome && (clsIn K D).isSome && typeIn K (.ref C) == some (.type "type") && subIn K (.ref D) (.ref C) == some false && plainGet K D "__class__" &&
  findIn K (.ref D) "__class__" == some (some (.builtin "object.__class__")) && specialIn K (.builtin "object.__class__") "__get__" == some (some (.builtin "getset_descriptor.__get__")) && takesIn K (.builtin "object.__class__") == some true && mroIn K D (.type "object") == some true
theorem w_isiNot {x C D dx : Addr} {svs : List SV} {args : List Value} {Q : Value → Shared → Prop} (R : Rep G σ s) (hm : Holds G σ x (obj D dx svs)) (hdx : Holds G σ dx isAny) (ok : isiNotOk G.K D C = true) (h : ∀ s', Rep G σ s' → Q (.bool false) s') (ha : args = [.ref x, .ref C] := by with_unfolding_all rfl) :
    wpAny (model G.prog G.w) A (call (.builtin "isinstance") args) Q E s := by
  subst ha
  obtain ⟨od, hod, rfl⟩ := R.cellH hdx
  obtain ⟨o, ho, sl, rfl, hok⟩ := R.cellH hm
  unfold isiNotOk at ok
  simp only [Bool.and_eq_true, Bool.not_eq_true', beq_iff_eq] at ok
  obtain ⟨⟨⟨⟨⟨⟨⟨⟨⟨e0, e1⟩, e2⟩, e3⟩, e4⟩, e5⟩, e6⟩, e7⟩, e8⟩, e9⟩ := ok
  refine call_isinstance (S := fun _ R' s' => Rep G σ s' ∧ InstAt s'.heap x (inst D dx sl) D (some emptyDict) ∧ R' (.ok (.ret (.bool false))) { s' with toks := s'.toks + 1 }) (fun prog w A' R' s' hs => ?_) ⟨R, instAt ho hod, h _ R.toks⟩
  obtain ⟨Rs, I, hR⟩ := hs
  refine isinstance_outer ?_ (fun e => by cases e)
  have X := Rs.inK
  have L1 : Looks (model prog w) s'.heap (typeOf (.ref C)) (.type "type") := looks_typeIn X e3
  have L2 : Looks (model prog w) s'.heap (isType (.ref C)) true := looksIsType X e1
  have L3 : Looks (model prog w) s'.heap (isType (.ref D)) true := looksIsType X e2
  have L4 : Looks (model prog w) s'.heap (isSubtype (.ref D) (.ref C)) false := looks_subIn X e4
  obtain ⟨hh, gg, dd', tt, os⟩ := s'
  have L0 := I.type (M := model prog w)
  have L5 : Looks (model prog w) hh (isInstance (.ref x) (.ref C)) false := L0.andThen L4
  unfold Builtin.«isinstance.nested»
  refine wpAny_bind (L0.at ?_)
  rw [if_neg (fun q => by rw [e0] at q; cases q)]
  refine wpAny_bind (L1.at ?_)
  rw [if_pos (by decide)]
  k_delta "plainIsInstance"
  refine wpAny_bind (wpAny_bind (L2.at ?_))
  simp only [Bool.not_true, Bool.false_eq_true, if_false]
  refine wpAny_bind (L5.at ?_)
  simp only [Bool.false_eq_true, if_false]
  refine wpAny_bind (kin_open (s := ⟨hh, gg, dd', tt, os⟩) X I (plainGet_of e5).1 (kin_hooked (s := ⟨hh, gg, dd', tt + 1, os⟩) X I (findObj_data0 e2 e6 e7 e8) (plainGet_of e5).2
    (wpAny_call (class_get (s := ⟨hh, gg, dd', tt + 1, os⟩) X I e9 (handed_on rfl ?_)))))
  refine wpAny_bind (L3.at ?_)
  simp only [Bool.not_true, Bool.false_eq_true, if_false]
  refine wpAny_bind (wpAny_rule ?_)
  refine L4.at ?_
  first
    | exact wpAny_pure hR
    | exact wpAny_pure (wpAny_pure hR)
end
end Bl

end
section
open PySem PySem.W PyProof.Rows PySem.Calls PyProof
set_option Elab.async false
set_option maxRecDepth 100000
set_option linter.unusedVariables false
namespace Bl
section
variable {KP : Params → Frag} {G : Gd KP} {A : Around} {E : Value → Shared → Prop} {σ : Led} {s : Shared} {env : Env}
variable {nm q : Str} {C N : Addr} {bs bm : List Value} {hdct : Bool} {sn : List Str} {sub : List Value} {ab : Bool} {col : Option Bool} {dd : Option Addr} {k0 k1 k2 k3 k5 : Option Value}

/-- an exception object of a class of the text, not raised so far -/
def isExcU (C : Addr) (dx : Option Addr) : Cell := fun o => ∃ t, o = { cls := .ref C, dict := dx, data := .fields #[.ref t, .none, .none, .none, .bool false, .none], slots := #[] }

theorem u_new {prog : Program} {w : World} {h : Heap} {g : Array GenState} {d : Drawn} {t : Nat} {os : OsState} {rest : List Value} {R : Result → Shared → Prop}
    (hC : h.get? C = some (excClassObj nm q C N bs bm hdct sn sub ab col dd k0 k1 k2 k3 k5 "Exception.__new__")) (hE : (Value.ref C :: bm).contains (.type "Exception") = true)
    (hA : (Value.ref C :: bm).contains (.type "AttributeError") = false) (hN : (Value.ref C :: bm).contains (.type "NameError") = false) (hrest : rest.length ≤ sizeLine)
    (hq : R (.ok (.ret (.ref (h.objs.size + 1)))) ⟨(h.push { cls := .type "tuple", data := .seq rest.toArray }).push { cls := .ref C, data := .fields #[.ref h.objs.size, .none, .none, .none, .bool false, .none] }, g, d, t, os⟩) :
    codeAny (model prog w) A (.call (.builtin "Exception.__new__") ⟨.ref C :: rest, []⟩) R ⟨h, g, d, t, os⟩ := by
  have F := PySem.F.excBase_Exception
  have hends := F.ends
  have hstar := F.noStar
  refine codeAny_call_builtin_code (Code.quiet_builtin _ F.quiet) ?_
  simp only [checkBuiltinCall, F.newKind, F.newSplit, F.newRow]
  repeat (first | refine wpAny_loadPart_at hC ?_ | (refine wpAny_isSubtype_exc hC ?_; rw [hE]) | refine wpAny_staticBase_exc hC ?_ | refine wpAny_madeBy_exc hC ?_ | simp only [bne_self_eq_false, Bool.false_eq_true, if_false] | wp_step)
  refine PySem.codeAny_builtinAt F.entry ?_
  unfold Builtin.«BaseException.__new__»
  refine PySem.wpAt_bind ?_
  show PySem.wpAt _ _ _ (stack >>= _) _ _ _
  refine PySem.wpAt_bind (PySem.wpAt_stack fun p below => PySem.wpAt_of_wpAny ?_)
  wp_walk
  refine PySem.wpAt_of_wpAny ?_
  rw [F.owner]
  repeat (first | with_reducible refine wpAny_madeHere_exc F.canon hC ?_ | with_reducible refine wpAny_loadPart_at hC ?_ | (with_reducible refine wpAny_isSubtype_exc hC ?_; first | rw [hE] | rw [hA] | rw [hN]) | wp_step)
  show R _ _
  rw [Heap.size_push]
  exact hq

/-- an exception class of the text is called: its own __init__ is entered -/
theorem c_makeExc {fI : Addr} {rest : List Value} {R' : Result → Shared → Prop} (R : Rep G σ s) (hK : G.K.lookup C = some (excClassObj nm q C N bs bm hdct sn sub ab col dd k0 k1 k2 k3 k5 "Exception.__new__"))
    (h : ∀ e s', Rep G ((e, isExcU C none) :: σ) s' → codeAny (model G.prog G.w) (A.under (.builtin "type.__call__" ⟨.ref C :: rest, []⟩)) (.call (.ref fI) ⟨.ref e :: rest, []⟩) (InitBack e R') s')
    (hrest : rest.length ≤ sizeLine)
    (hE : (Value.ref C :: bm).contains (.type "Exception") = true := by kernel_rfl) (hA : (Value.ref C :: bm).contains (.type "AttributeError") = false := by kernel_rfl) (hN : (Value.ref C :: bm).contains (.type "NameError") = false := by kernel_rfl)
    (hi : findIn G.K (.ref C) "__init__" = some (some (.ref fI)) := by kernel_rfl) (hf : typeIn G.K (.ref fI) = some (.type "function") := by kernel_rfl) :
    codeAny (model G.prog G.w) A (.call (.ref C) ⟨rest, []⟩) R' s := by
  have X := R.inK
  have R1 := (R.push (c := fun _ => True) (t := s.toks) { cls := .type "tuple", data := .seq rest.toArray } trivial)
  have R2 := (R1.push (c := isExcU C none) (t := s.toks) { cls := .ref C, data := .fields #[.ref s.heap.objs.size, .none, .none, .none, .bool false, .none] } ⟨_, rfl⟩)
  have h2 := h _ _ (R2.sel (τ := (_, isExcU C none) :: σ) (.pick .head (.drop .refl)))
  rw [show (s.heap.push { cls := .type "tuple", data := .seq rest.toArray }).objs.size = s.heap.objs.size + 1 from Heap.size_push ..] at h2
  have hC := X _ _ hK
  obtain ⟨hh, g, d, t, os⟩ := s
  have f1 := tc_lookup
  have f2 := tc_bind (.ref C)
  have hT : (⟨hh, g, d, t, os⟩ : Shared).TypeIs (.ref C) "type" := ⟨_, hC, rfl⟩
  refine codeAny_of_tree ?_
  show wpAny _ _ (callAny (.ref C) _) _ _ _
  repeat (any_goals (first | assumption | with_reducible refine wpAny_loadPart_at hC ?_ | wp_step))
  refine ⟨rfl, ?_⟩
  refine codeAny_call_builtin_at (Code.quiet_builtin _ (by decide +kernel)) entry_typeCall (wpAny_check_type_call_sub hC ?_)
  repeat (first | with_reducible refine wpAny_loadPart_at hC ?_ | with_reducible refine wpAny_madeBy_exc hC ?_ | wp_step)
  refine u_new hC hE hA hN hrest ?_
  show wpAny _ _ _ _ _ _
  have k : ∀ b o, hh.get? b = some o → ((hh.push { cls := .type "tuple", data := .seq rest.toArray }).push { cls := .ref C, data := .fields #[.ref hh.objs.size, .none, .none, .none, .bool false, .none] }).get? b = some o := fun b o e => Heap.get?_push_of_some _ (Heap.get?_push_of_some _ e)
  have hC₁ := k _ _ hC
  have hget : ((hh.push { cls := .type "tuple", data := .seq rest.toArray }).push
      { cls := .ref C, data := .fields #[.ref hh.objs.size, .none, .none, .none, .bool false, .none] }).get? (hh.objs.size + 1) = some
      { cls := .ref C, data := .fields #[.ref hh.objs.size, .none, .none, .none, .bool false, .none] } := by heap_get
  have hcC : (Value.ref C :: bm).contains (.ref C) = true := by simp
  have X1 : G.K.In ((hh.push { cls := .type "tuple", data := .seq rest.toArray }).push { cls := .ref C, data := .fields #[.ref hh.objs.size, .none, .none, .none, .bool false, .none] }) := fun a o e => k a o (X a o e)
  have i1 := looks_findIn (M := model G.prog G.w) X1 hi
  have b1 := bind_fn (M := model G.prog G.w) X1 (.ref (hh.objs.size + 1)) hf
  have t1 : Looks (model G.prog G.w) _ (typeOf (.ref (hh.objs.size + 1))) (.ref C) := (Looks.ld hget).andThen .now
  have s1 : Looks (model G.prog G.w) ((hh.push { cls := .type "tuple", data := .seq rest.toArray }).push { cls := .ref C, data := .fields #[.ref hh.objs.size, .none, .none, .none, .bool false, .none] }) (isSubtype (.ref C) (.ref C)) true := by
    have : Looks (model G.prog G.w) hh (isSubtype (.ref C) (.ref C)) true := fun A Q E s k q => by
      obtain ⟨h1, h2, h3, h4, h5⟩ := s
      exact wpAny_isSubtype_exc (k _ _ hC) (by rw [hcC]; exact q)
    exact this.keeps k
  unfold isInstance callSpecial? specialOf
  dsimp only [List.append_eq, List.nil_append, List.cons_append]
  repeat (first | with_reducible refine wpAny_call ?_ | lk)
  show codeAny _ (A.under (.builtin "type.__call__" ⟨.ref C :: rest, []⟩)) (.call (.ref fI) ⟨.ref (hh.objs.size + 1) :: rest, []⟩) _ _
  refine codeAny_mono h2 fun r s' z => ?_
  rcases r with e | (v | _ | _ | _) <;> first | exact z | exact z.elim | skip
  obtain ⟨rfl, z⟩ := z
  exact wpAny_pure (wpAny_pure z)
end
end Bl

end
section
open PySem PySem.W PyProof.Rows PySem.Calls PyProof
set_option Elab.async false
set_option maxRecDepth 100000
set_option linter.unusedVariables false
namespace Bl
section
variable {KP : Params → Frag} {G : Gd KP} {A : Around} {E : Value → Shared → Prop} {σ : Led} {s : Shared} {env : Env}
def fnIn (K : Frag) (f : Addr) : Bool := match K.lookup f with
  | some ⟨_, _, .func _, _⟩ => true
  | _ => false
theorem keeps_meth {q f : Addr} {x : Value} {h : Heap} {M : Model} (X : G.K.In h) (hq : h.get? q = some (methodObj (.ref f) x)) (hf : fnIn G.K f = true) : Looks M h (keeperOf (.ref q)) .boundFrame := by
  unfold fnIn at hf
  split at hf
  · rename_i ho
    exact (Looks.ld (part := none) hq).andThen ((Looks.ld (part := none) (X _ _ ho)).andThen .now)
  · cases hf
/-- a bound method that lies in the ledger is called -/
theorem w_cwM {q f : Addr} {x : Value} {first : List Value} {e : Expr} {rest : List Expr} {pos : Pos} {Q : Value → Shared → Prop} (hf : fnIn G.K f = true)
    (h : wpAny (model G.prog G.w) A (spliced (backTo pos (starEach (e :: rest) env))) (fun vs s₁ => (∃ σ', Rep G σ' s₁ ∧ Holds G σ' q (isMeth f x)) ∧ wpAny (model G.prog G.w) A (call (.ref q) (first ++ vs)) Q E s₁) E s)
    (hplain : (backTo pos (starEach (e :: rest) env)).any (·.1) = false := by rfl) (he : starEach (e :: rest) env = (false, eval e env) :: starEach rest env := by rfl) :
    wpAny (model G.prog G.w) A (callWith pos (.ref q) first (backTo pos (starEach (e :: rest) env)) (backToKw pos (keywordEach [] env))) Q E s := by
  show wpAny _ _ (callWith pos (.ref q) first (backTo pos (starEach (e :: rest) env)) []) _ _ _
  refine callWith_of (P := fun h => G.K.In h ∧ h.get? q = some (methodObj (.ref f) x)) (by rw [hplain]; rfl) (fun h ⟨X, hq⟩ => ⟨.boundFrame, .inr (.inr rfl), keeps_meth X hq hf⟩) ?_
  rw [he] at h ⊢
  refine evalArgs_plain (wpAny_mono h (fun vs s₁ ⟨⟨σ', R', hm⟩, h'⟩ => ⟨⟨R'.inK, ?_⟩, h'⟩) fun _ _ x => x)
  obtain ⟨o, ho, rfl⟩ := R'.cellH hm
  exact ho
theorem w_cwM' {q f : Addr} {x : Value} {first : List Value} {e : Expr} {rest : List Expr} {pos : Pos} {Q : Value → Shared → Prop} (hf : fnIn G.K f = true)
    (h : wpAny (model G.prog G.w) A (spliced (backTo pos (starEach (e :: rest) env))) (fun vs s₁ => (∃ σ', Rep G σ' s₁ ∧ Holds G σ' q (isMeth f x)) ∧ wpAny (model G.prog G.w) A (call (.ref q) (first ++ vs)) Q E s₁) E s)
    (hplain : (backTo pos (starEach (e :: rest) env)).any (·.1) = false := by rfl) (he : starEach (e :: rest) env = (false, eval e env) :: starEach rest env := by rfl) :
    wpAny (model G.prog G.w) A (callWith pos (.ref q) first (backTo pos (starEach (e :: rest) env)) []) Q E s := w_cwM hf h hplain he
theorem x_ExprE {sc : Scope} {L : Addr} {cl : List (Str × Addr)} {cd : Value} {e : Expr} {pos : Pos} {Q : Flow → Shared → Prop} (he : EnvIs env sc L cl cd) (h : wpAny (model G.prog G.w) A (eval e env) (fun _ => Q .next) E s)
    (hs : swapsWith e none pos.line env = pure false := by with_unfolding_all rfl) : wpAny (model G.prog G.w) A (exec (Stmt.Expr e pos) env) Q E s := by
  have hi : interactive env = false := by unfold interactive; rw [he.kind]; rfl
  rw [exec_Expr env e pos hi hs]
  exact wpAny_bind (wpAny_standAt (wpAny_bind (wpAny_mono h (fun v s' h' => wpAny_dropValue h') fun _ _ x => x)))
end
end Bl

end
section
open PySem PySem.W PyProof.Rows PySem.Calls PyProof PySem.Builtin PySem.Builtin.ObjectAttr PySem.Builtin.Getset_descriptor
set_option Elab.async false
set_option maxRecDepth 100000
set_option linter.unusedVariables false
set_option maxHeartbeats 2000000
namespace Bl
section
variable {KP : Params → Frag} {G : Gd KP} {A : Around} {E : Value → Shared → Prop} {σ σ' : Led} {s : Shared} {env : Env}

/-- a dict of names -/
def isNs1 (m : Str → Option Value) : Cell := fun o => ∃ es ep, o.data = .dict es ep ∧ StrKeys es ∧ UniqKeys es ∧ ∀ y, nsFind es y = m y
def one (x : Str) (v : Value) : Str → Option Value := fun y => if y = x then some v else none
theorem one_within (x : Str) (v : Value) : Within (one x v) [x] := fun y hy => by
  unfold one at hy
  by_cases e : y = x
  · rw [e]; exact List.mem_singleton.mpr rfl
  · rw [if_neg e] at hy; exact absurd rfl hy
theorem one_over (x : Str) (u v : Value) : (fun y => if y = x then some v else one x u y) = one x v := by
  funext y
  unfold one
  by_cases e : y = x
  · rw [if_pos e, if_pos e]
  · rw [if_neg e, if_neg e, if_neg e]

/-- classes of the text, then those of the exceptions -/
def refsExc : List Value → Bool
  | .ref _ :: r => refsExc r
  | l => l == [.type "Exception", .type "BaseException", .type "object"]
theorem refuse_refsExc (self : Value) : ∀ {l : List Value}, refsExc l = true → refuseLoop self "__setattr__" l = pure ()
  | .ref c :: r, e => by rw [refuseLoop_ref]; exact refuse_refsExc self (by simpa [refsExc] using e)
  | [], e => by cases e
  | .none :: r, e => by simp [refsExc] at e
  | .bool _ :: r, e => by simp [refsExc] at e
  | .int _ _ :: r, e => by simp [refsExc] at e
  | .float _ _ :: r, e => by simp [refsExc] at e
  | .str _ _ :: r, e => by simp [refsExc] at e
  | .type n :: r, e => by
    rw [show Value.type n :: r = [.type "Exception", .type "BaseException", .type "object"] from by simpa [refsExc] using e]
    exact PySem.F.store_Exception.passes self
  | .ellipsis :: r, e => by simp [refsExc] at e
  | .notImplemented :: r, e => by simp [refsExc] at e
  | .bytes _ _ :: r, e => by simp [refsExc] at e
  | .builtin _ :: r, e => by simp [refsExc] at e

/-- what an exception class of the text must be like -/
def excK (K : Frag) (C : Addr) (name : Str) : Bool :=
  (clsIn K C).any (fun cd => refsExc cd.mro && cd.mro.contains (.type "object") && cd.hasDict && cd.mro.contains (.type "BaseException")) && findIn K (.ref C) "__setattr__" == some (some (.builtin "object.__setattr__")) && findIn K (.ref C) name == some none &&
  findIn K (.ref C) "__getattribute__" == some (some (.builtin "BaseException.__getattribute__")) && findIn K (.ref C) "__getattr__" == some none
structure ExcK (K : Frag) (C : Addr) (name : Str) (cd : ClassData) : Prop where
  cls : clsIn K C = some cd
  mro : refsExc cd.mro = true
  top : cd.mro.contains (.type "object") = true
  dict : cd.hasDict = true
  base : cd.mro.contains (.type "BaseException") = true
  seta : findIn K (.ref C) "__setattr__" = some (some (.builtin "object.__setattr__"))
  own : findIn K (.ref C) name = some none
  geta : findIn K (.ref C) "__getattribute__" = some (some (.builtin "BaseException.__getattribute__"))
  hook : findIn K (.ref C) "__getattr__" = some none
theorem excK_of {K : Frag} {C : Addr} {name : Str} (e : excK K C name = true) : ∃ cd, ExcK K C name cd := by
  unfold excK at e
  simp only [Bool.and_eq_true, beq_iff_eq] at e
  obtain ⟨⟨⟨⟨e1, e2⟩, e3⟩, e4⟩, e5⟩ := e
  obtain ⟨cd, hc, e1⟩ := any_some e1
  simp only [Bool.and_eq_true] at e1
  exact ⟨cd, hc, e1.1.1.1, e1.1.1.2, e1.1.2, e1.2, e2, e3, e4, e5⟩
/-- into object.__setattr__, up to the own dict -/
theorem u_osa {x C : Addr} {ox : Obj} {od : Option Obj} {name : Str} {v : Value} {cd : ClassData} {tk : Tok} {R : Result → Shared → Prop} (X : G.K.In s.heap) (I : InstAt s.heap x ox C od) (ok : ExcK G.K C name cd)
    (h : wpAny (model G.prog G.w) A.in1 (storeInOwnDict (.ref x) (.ref C) (.str name tk) name v false) (fun fin s' => match fin with | .done f => R (.ok f) s' | .again c' => c'.quiet = true ∧ codeAny (model G.prog G.w) A c' R s') (fun e s' => R (.error e) s') s) :
    codeAny (model G.prog G.w) A (.call (.builtin "object.__setattr__") ⟨[.ref x, .str name tk, v], []⟩) R s := by
  have SF := PySem.F.store_object
  have ne : cd.mro.isEmpty = false := by have := ok.mro; cases q : cd.mro with | nil => rw [q] at this; cases this | cons _ _ => rfl
  have sub : Looks (model G.prog G.w) s.heap (isInstance (.ref x) (.type "object")) true := I.type.andThen (looks_mroIn X (by unfold mroIn; rw [ok.cls, Option.bind_some, if_neg (by rw [ne]; decide), ok.top]))
  refine codeAny_call_builtin SF.slot.plain SF.entry (@check_slot (model G.prog G.w) _ _ _ "object.__setattr__" "object" "__setattr__" (.ref x) [.str name tk, v] [] _ SF.kind SF.split sub (SF.args (.ref x) (.str name tk) v) ?_)
  have hm : Looks (model G.prog G.w) s.heap (mroOf (.ref C)) cd.mro := (looks_clsIn X ok.cls).andThen .now
  rw [osa_eq, refuse_eq]
  refine wpAny_bind (wpAny_bind (I.type.here (wpAny_bind (hm.here ?_))))
  rw [refuse_refsExc _ ok.mro]
  refine wpAny_pure (wpAny_bind (I.type.here (wpAny_bind ((looks_findIn X ok.own).here (wpAny_bind ((show Looks (model G.prog G.w) s.heap (storeTaker? none) none from .now).here ?_))))))
  exact h
theorem u_open {x C : Addr} {ox : Obj} {od : Option Obj} {name : Str} {v : Value} {cd : ClassData} {Q : Unit → Shared → Prop} (X : G.K.In s.heap) (I : InstAt s.heap x ox C od) (ok : ExcK G.K C name cd)
    (h : wpAny (model G.prog G.w) A.in1 (storeInOwnDict (.ref x) (.ref C) (.str name s.toks) name v false) (fun fin s' => match fin with | .done (.ret _) => Q () s' | _ => False) E { s with toks := s.toks + 1 }) :
    wpAny (model G.prog G.w) A (setAttr (.ref x) name v) Q E s := by
  refine set_plain X I ok.seta (u_osa (s := { s with toks := s.toks + 1 }) X I ok (wpAny_mono h (fun fin s' z => ?_) fun _ _ z => z))
  rcases fin with (_ | _ | _ | _) | _ <;> first | exact z | exact z.elim

theorem ns1_any {o : Obj} {d : Addr} {h : Heap} {m : Str → Option Value} (e : h.get? d = some o) (c : isNs1 m o) : h.Ns1 d m := let ⟨es, ep, a⟩ := c; ⟨o, es, ep, e, a⟩

theorem u_store {d : Addr} {m : Str → Option Value} {name : Str} {v : Value} {tk : Tok} {ns : List Str} {Q : Fin → Shared → Prop} (R : Rep G σ s) (hu : Upd σ d (isNs1 m) (isNs1 fun y => if y = name then some v else m y) σ') (hw : Within m ns) (hz : ns.length ≤ 1000)
    (h : ∀ s', Rep G σ' s' → Q (.done (.ret .none)) s') : wpAny (model G.prog G.w) A (storeInDict d (.str name tk) name v) Q E s := by
  obtain ⟨o, ho, hc⟩ := R.cellM hu.mem
  unfold storeInDict newKeyGuard
  refine wpAny_bind (wpAny_pure (wpAny_bind (wpAny_nsSet1 (ns1_any ho hc) fun h' hn' hs => ?_)))
  obtain ⟨oD, esD, epD, hoD, hdD, hcD⟩ := hn'.count (Within.cons name v hw)
  refine wpAny_bind (wpAny_lookBehind hoD (by rw [hdD]; exact pastItsLine_dict (Nat.le_trans hcD (by rw [List.length_cons, sizeLine_eq]; omega))) ?_)
  refine wpAny_pure (h _ (R.upd' hu (Heap.SameBut.extBut hs) ?_))
  obtain ⟨o', es, ep, e, a⟩ := hn'
  exact ⟨o', e, es, ep, a⟩

/-- the first name that is stored on an exception: its dict comes up -/
theorem u_setNew {x C : Addr} {name : Str} {v : Value} {Q : Unit → Shared → Prop} (R : Rep G ((x, isExcU C none) :: σ) s) (ok : excK G.K C name = true)
    (h : ∀ d s', Rep G ((x, isExcU C (some d)) :: (d, isNs1 (one name v)) :: σ) s' → Q () s') : wpAny (model G.prog G.w) A (setAttr (.ref x) name v) Q E s := by
  obtain ⟨cd, ok⟩ := excK_of ok
  obtain ⟨o, hx, t, rfl⟩ := R.cells _ (.head _)
  have I : InstAt s.heap x _ C none := ⟨hx, rfl, rfl, trivial⟩
  refine u_open R.inK I ok ?_
  have L1 := looks_clsIn (M := model G.prog G.w) R.inK ok.cls
  have R1 := R.push (c := isNs1 fun _ => none) (t := s.toks + 1) emptyDict ⟨#[], 0, rfl, fun e he => absurd he (by simp), List.Pairwise.nil, fun y => rfl⟩
  have hx1 : (s.heap.push emptyDict).get? x = some _ := Heap.get?_push_of_some _ hx
  have R2 := R1.upd' (s' := { s with heap := (s.heap.push emptyDict).update x (fun o => { cls := o.cls, dict := some s.heap.objs.size, data := o.data, slots := o.slots }), toks := s.toks + 1 }) (c' := isExcU C (some s.heap.objs.size)) (.tail .head) (Heap.SameBut.update ..).extBut
    ⟨_, Heap.get?_update_self (fun o : Obj => { cls := o.cls, dict := some s.heap.objs.size, data := o.data, slots := o.slots }) hx1 rfl, t, rfl⟩
  obtain ⟨hh, g, dr, tk, os⟩ := s
  unfold storeInOwnDict ownDictForStores instanceDict
  refine wpAny_bind (wpAny_pure (wpAny_bind (wpAny_bind (wpAny_loadPart hx ?_))))
  dsimp only
  refine wpAny_bind (L1.at ?_)
  rw [ok.dict]
  refine wpAny_bind (wpAny_alloc ?_)
  refine wpAny_bind (wpAny_update hx1 ?_)
  refine wpAny_pure ?_
  refine u_store R2 .head Within.nil (by decide) fun s' R3 => ?_
  exact h _ _ (R3.sel (.pick (.tail .head) .refl))
theorem u_setOld {x C d : Addr} {m : Str → Option Value} {ns : List Str} {name : Str} {v : Value} {Q : Unit → Shared → Prop} (R : Rep G σ s) (hm : Holds G σ x (isExcU C (some d))) (hu : Upd σ d (isNs1 m) (isNs1 fun y => if y = name then some v else m y) σ') (hw : Within m ns) (hz : ns.length ≤ 1000) (ok : excK G.K C name = true)
    (h : ∀ s', Rep G σ' s' → Q () s') : wpAny (model G.prog G.w) A (setAttr (.ref x) name v) Q E s := by
  obtain ⟨cd, ok⟩ := excK_of ok
  obtain ⟨o, hx, t, rfl⟩ := R.cellH hm
  obtain ⟨od, hd, hcd⟩ := R.cellM hu.mem
  have I : InstAt s.heap x _ C (some od) := ⟨hx, rfl, rfl, hd⟩
  refine u_open R.inK I ok ?_
  have L1 := looks_clsIn (M := model G.prog G.w) R.inK ok.cls
  unfold storeInOwnDict ownDictForStores instanceDict
  refine wpAny_bind (wpAny_pure (wpAny_bind (wpAny_bind (wpAny_loadPart hx ?_))))
  dsimp only
  refine wpAny_bind (Looks.here (s := { s with toks := s.toks + 1 }) L1 ?_)
  rw [ok.dict]
  refine wpAny_pure ?_
  exact u_store R.toks hu hw hz fun s' R3 => h _ R3
theorem bga_kind : builtinKind "BaseException.__getattribute__" = some .slot := by decide +kernel
theorem bga_split : splitId "BaseException.__getattribute__" = some ("BaseException", "__getattribute__") := by decide +kernel
/-- a name is read off an exception -/
theorem u_get {x C d : Addr} {m : Str → Option Value} {name : Str} {v : Value} {ex : Bool} {Q : Value → Shared → Prop} (R : Rep G σ s) (hm : Holds G σ x (isExcU C (some d))) (hd : Holds G σ d (isNs1 m)) (hv : m name = some v) (hh : handedIn v = true) (ok : excK G.K C name = true)
    (h : ∀ s', Rep G σ s' → Q v s') : wpAny (model G.prog G.w) A (getAttr (.ref x) name ex) Q E s := by
  obtain ⟨cd, ok⟩ := excK_of ok
  obtain ⟨o, hx, t, rfl⟩ := R.cellH hm
  obtain ⟨od, hd, es, ep, hd1, hd2, hd3, hd4⟩ := R.cellH hd
  have I : InstAt s.heap x _ C (some od) := ⟨hx, rfl, rfl, hd⟩
  have hl : lookIn name od = some (some v) := by
    have := hd4 name
    rw [hv] at this
    unfold nsFind findBy at this
    unfold lookIn
    rw [hd1]
    dsimp only
    rw [Array.find?_toList]
    obtain ⟨en, he1, he2⟩ := Option.map_eq_some_iff.mp this
    rw [he1, ← he2]
  have hf : findObj G.K C (some od) name = some (.value v) := by
    unfold findObj
    rw [ok.cls, Option.bind_some, ok.own]
    simp [W.ownOf, ok.dict, hl]
  have L0 := I.type (M := model G.prog G.w)
  have L1 := looks_findIn (M := model G.prog G.w) R.inK ok.geta
  have L2 := looks_find (M := model G.prog G.w) R.inK I hf
  have fin := h _ (R.toks (t := s.toks + 1))
  obtain ⟨hh', g, dr, tk, os⟩ := s
  unfold getAttr getAttrBy
  refine wpAny_bind (wpAny_mkText (wpAny_holding (wpAny_bind (L0.at (wpAny_bind (L1.at ?_))))))
  have L3 := looks_findIn (M := model G.prog G.w) R.inK ok.hook
  have ne : cd.mro.isEmpty = false := by have := ok.mro; cases q : cd.mro with | nil => rw [q] at this; cases this | cons _ _ => rfl
  have sub : Looks (model G.prog G.w) hh' (isInstance (.ref x) (.type "BaseException")) true := L0.andThen (looks_mroIn R.inK (by unfold mroIn; rw [ok.cls, Option.bind_some, if_neg (by rw [ne]; decide), ok.base]))
  have f3 := PySem.F.attr_Exception.ga.bind (.ref x)
  have hx0 : (ex && onTheHeap (Value.builtin "BaseException.__getattribute__")) = false := by cases ex <;> rfl
  have hne : (onTheHeap (.ref C) && (Value.builtin "BaseException.__getattribute__" == .builtin "object.__getattribute__")) = false := by kernel_rfl
  dsimp only
  rw [hne]
  simp only [Bool.false_eq_true, if_false]
  unfold getAttrByItsOwn hookBefore callGetattribute boundAndCalled
  refine wpAny_bind (L3.at ?_)
  refine wpAny_bind (wpAny_attempt (wpAny_holding ?_))
  rw [hx0]
  refine wpAny_bind (wpAny_of_eq f3 ?_)
  show wpAny _ _ (call (.builtin "BaseException.__getattribute__") [.ref x, .str name tk]) _ _ _
  refine wpAny_call (codeAny_call_builtin PySem.F.attr_Exception.ga.plain PySem.F.entry_bexc_ga (@check_slot (model G.prog G.w) _ _ ⟨hh', g, dr, tk + 1, os⟩ "BaseException.__getattribute__" "BaseException" "__getattribute__" (.ref x) [.str name tk] [] _ bga_kind bga_split sub (PySem.F.args_bexc_ga _ _) ?_))
  unfold Builtin.«object.__getattribute__»
  refine wpAny_bind (wpAny_pure (wpAny_bind (wpAny_pure (wpAny_bind (L0.at (wpAny_bind (L2.at ?_)))))))
  refine wpAny_pure ?_
  show wpAny _ _ (handedOut v) _ _ _
  rw [handedOut_of hh]; exact wpAny_pure fin
end
end Bl

end
section
open PySem PySem.W PyProof.Rows PySem.Calls PyProof PySem.Builtin PySem.Builtin.ObjectAttr PySem.Builtin.Getset_descriptor
set_option Elab.async false
set_option maxRecDepth 100000
set_option linter.unusedVariables false
set_option maxHeartbeats 2000000
namespace Bl
theorem wd_slot : Slot "wrapper_descriptor" "__get__" "wrapper_descriptor.__get__" := .of (owner := "wrapper_descriptor") (n := "__get__") (by rw [typeLookup_type, builtinLookup_eq_fast]; kernel_rfl) (by decide +kernel) (by decide +kernel) (by decide +kernel)
  (by first | exact .inl (by decide +kernel) | exact .inr (by decide +kernel)) (by rw [isSubtype_type]; kernel_rfl)
theorem wd_entry : entryFor table "wrapper_descriptor.__get__" = some Builtin.«wrapper_descriptor.__get__» := entryFor_of_tree (by kernel_rfl)
theorem wd_args (a b c : Value) : argsOk "wrapper_descriptor.__get__" ⟨[a, b, c], []⟩ := by unfold argsOk; kernel_rfl
theorem ei_type : typeOf (.builtin "Exception.__init__") = pure (.type "wrapper_descriptor") := by kernel_rfl
theorem ei_cls : (".".intercalate ("Exception.__init__".cutAt '.').dropLast) = "Exception" := by
  have e0 : "Exception.__init__".cutAt '.' = ["Exception", "__init__"] := by first | rfl | decide +kernel
  rw [e0]; decide +kernel
/-- Exception.__init__ bound to an exception -/
def isMw (x : Addr) : Cell := fun o => o = { cls := .type "method-wrapper", data := .fields #[.builtin "Exception.__init__", .ref x] }
section
variable {KP : Params → Frag} {G : Gd KP} {A : Around} {E : Value → Shared → Prop} {σ σ' : Led} {s : Shared} {env : Env} {L : Addr} {ρ : List (Str × Option Value)} {sc : Scope} {cl : List (Str × Addr)} {cd : Value}

theorem w_superNodeU {body : List Stmt} {p0 p1 : Pos} {attr : Str} {whole : Sem Value} {f cc cda x C D : Addr} {dx : Option Addr} {fd : FuncData} {ar : Arg} {vs : Array Value} {file : Str} {tf : Tok} {oc ccl clv : Value} {od cdd cld : Option Addr} {osl ccs csl : Array (Option Value)} {cdD : ClassData} {Q : Value → Shared → Prop}
    (R : Rep G σ s) (he : EnvIs env sc L cl (.ref cda)) (hfn : env.func = some f) (hL : Holds G σ L (isNs ρ)) (hX : Holds G σ x (isExcU C dx)) (hcl : (("__class__" : Str), cc) ∈ cl) (hnc : nodupB (cl.map (·.1)) = true)
    (hf : G.K.lookup f = some ⟨oc, od, .func fd, osl⟩) (hp : (fd.params.posonlyargs ++ fd.params.args).head? = some ar) (hv : (ar.arg, some (.ref x)) ∈ ρ)
    (hcode : G.K.lookup cda = some ⟨ccl, cdd, .fields vs, ccs⟩) (hvs : vs[2]? = some (.str file tf)) (hfile : ((G.prog.main.file : Str) == file) = true) (htop : (G.prog.main.scope.names.lookup ("super" : Str)).isSome = false)
    (hcell : G.K.lookup cc = some ⟨clv, cld, .cell (some (.ref D)), csl⟩) (hD : clsIn G.K D = some cdD) (hsub : mroIn G.K C (.ref D) = some true) (hsuper : nsIn G.K mainGlobals "super" = some none)
    (hat : (attr == ("__class__" : Str)) = false) (hks : sc.names.lookup ("super" : Str) = some .globalImplicit) (hkc : sc.names.lookup ("__class__" : Str) = some .free) (hka : sc.names.lookup ar.arg = some .local)
    (h : ∀ so s', Rep G ((so, isSup D x C) :: σ) s' → Q (.ref so) s') :
    PySem.wpAt (model G.prog G.w) A (.func body env) (attributeBase (.Call (.Name "super" p0) [] [] p1) attr env whole) Q E s := by
  have X : G.K.In s.heap := R.inK
  obtain ⟨ox, hox, t, rfl⟩ := R.cellH hX
  have hns := isNs.ns (R.cellH hL)
  have hnd : (ρ.map (·.1)).Nodup := let ⟨o, _, hn, _⟩ := R.cellH hL; hn
  have hns' : s.heap.Ns env.locals (look ρ) := by rw [he.locals]; exact hns
  have hlk : look ρ ar.arg = some (.ref x) := by simp [look, lookup_of_mem hnd hv]
  obtain ⟨oD, hD1, hD2⟩ : ∃ oD, s.heap.get? D = some oD ∧ oD.data = .cls cdD := by
    unfold clsIn at hD
    split at hD
    · rename_i c d cd' sl ho
      cases hD
      exact ⟨_, X _ _ ho, rfl⟩
    · cases hD
  refine ks_wpAt_super_base (he.kindOf hks) (he.kindOf hkc) hat hfn (X _ _ hf) rfl hp he.code (X _ _ hcode) rfl hvs hfile htop ?_
  refine ks_loadName_global he.kind (he.kindOf hks) (loadGlobal_builtin (he.globals ▸ R.glob) (mg_none_of R.inK R.glob hsuper) (he.builtins ▸ R.bt) ((G.bi _ (by decide +kernel)).trans (show bootBuiltins "super" = some (.type "super") by kernel_rfl)) ⟨rfl, ?_⟩)
  refine wpAny_loadName_free he.kind (he.kindOf hkc) (by rw [he.cells]; exact lookup_of_mem (nodup_of_B hnc) hcl) ⟨_, X _ _ hcell, rfl⟩ ?_
  refine wpAny_loadName_local he.kind (he.kindOf hka) hns' hlk ?_
  obtain ⟨hh, g, d, t, os⟩ := s
  refine ks_wpAny_isType_cls hD1 hD2 ⟨rfl, ?_⟩
  refine ks_wpAny_call_super hD1 hD2 hox rfl (fun c e => by cases e) (looks_mroIn X hsub) (fun h' e k => ?_)
  exact h _ _ (R.add (get?_size _) k e rfl)

theorem excU_ne {x C : Addr} {dx : Option Addr} {cd : ClassData} (R : Rep G σ s) (hX : Holds G σ x (isExcU C dx)) (hc : clsIn G.K C = some cd) : x ≠ C := fun q => by
  obtain ⟨ox, hox, t, rfl⟩ := R.cellH hX
  unfold clsIn at hc
  split at hc
  · rename_i ho
    have := R.inK _ _ ho
    rw [← q, hox] at this
    cases this
  · cases hc
theorem w_superMethU {name : Str} {pl : Sem Bool} {so D x C f2 : Addr} {dx : Option Addr} {Q : Value × List Value → Shared → Prop} (R : Rep G ((so, isSup D x C) :: σ) s) (hX : Holds G σ x (isExcU C dx))
    (ho : nsIn G.K cStatics "thirdparty.any" = some none) (hm : ks_superIn G.K C D name = some (some (.ref f2))) (ht : typeIn G.K (.ref f2) = some (.type "function")) (hn : (name == ("__class__" : Str)) = false)
    (h : ∀ q s', Rep G ((q, isMeth f2 (.ref x)) :: σ) s' → Q (.ref q, []) s') : wpAny (model G.prog G.w) A (getMethod (.ref so) name pl) Q E s := by
  have X : G.K.In s.heap := R.inK
  obtain ⟨os', hso, rfl⟩ := R.cells _ (.head _)
  cases hc : clsIn G.K C with
  | none => unfold ks_superIn at hm; rw [hc] at hm; cases hm
  | some cd =>
    have hne := excU_ne R hX.tail hc
    unfold ks_superIn at hm
    rw [hc] at hm
    obtain ⟨of, hof, hofc⟩ : ∃ of, s.heap.get? f2 = some of ∧ of.cls = .type "function" := by
      have ht' : (G.K.lookup f2).map (·.cls) = some (.type "function") := ht
      cases z : G.K.lookup f2 with
      | none => rw [z] at ht'; cases ht'
      | some of => rw [z] at ht'; exact ⟨of, X _ _ z, Option.some.inj ht'⟩
    obtain ⟨hh, g, d, t, os⟩ := s
    refine ks_wpAny_getMethod_super hso (looks_opaque X ho) (l₀ := cd.mro) ?_ rfl X hm hof hofc hne hn ?_
    · exact fun A Q E s k q => wpAny_bind ((looks_clsIn X hc) A _ E s k (wpAny_pure q))
    · exact h _ _ (R.drop1.push (c := isMeth f2 (.ref x)) (t := t + 1) (methodObj (.ref f2) (.ref x)) rfl)

theorem u_superEI {prog : Program} {w : World} {h : Heap} {g : Array GenState} {d : Drawn} {t : Nat} {os : OsState} {so D x C : Addr} {l₀ l : List Value} {K : Frag} {tk : Tok} {Q : Fin → Shared → Prop}
    (hso : h.get? so = some { cls := .type "super", dict := none, data := .fields #[.ref D, .ref x, .ref C], slots := #[] }) (hno : Looks (model prog w) h (opaqueClassAbove (.ref C)) none)
    (hC : Looks (model prog w) h (mroOf (.ref C)) l₀) (hl : (l₀.dropWhile (· != .ref D)).drop 1 = l) (X : K.In h)
    (hf : alongIn K "__init__" l = some (some (.builtin "Exception.__init__"))) {ox : Obj} (hx : h.get? x = some ox) (hxc : ox.cls = .ref C) (hS : Looks (model prog w) h (isSubtype (.ref C) (.type "Exception")) true) (hxC : x ≠ C)
    (hq : Q (.done (.ret (.ref h.objs.size))) ⟨h.push { cls := .type "method-wrapper", data := .fields #[.builtin "Exception.__init__", .ref x] }, g, d, t, os⟩) :
    wpAny (model prog w) A (Builtin.«super.__getattribute__» ⟨[.ref so, .str "__init__" tk], []⟩) Q E ⟨h, g, d, t, os⟩ := by
  have hlk := wd_slot.lookup
  have hne : (Value.ref x == Value.ref C) = false := by simp [hxC]
  have hn : (("__init__" : Str) == ("__class__" : Str)) = false := by kernel_rfl
  have hTf : (⟨h, g, d, t, os⟩ : Shared).TypeIs (.builtin "Exception.__init__") "wrapper_descriptor" := ei_type
  have hdt : ({ cls := .type "super", dict := none, data := .fields #[.ref D, .ref x, .ref C], slots := #[] } : Obj).data = .fields #[.ref D, .ref x, .ref C] := rfl
  have f0 : (#[.ref D, .ref x, .ref C] : Array Value)[0]? = some (.ref D) := rfl
  have f1 : (#[.ref D, .ref x, .ref C] : Array Value)[1]? = some (.ref x) := rfl
  have f2 : (#[.ref D, .ref x, .ref C] : Array Value)[2]? = some (.ref C) := rfl
  unfold Builtin.«super.__getattribute__»
  repeat (first
    | (with_reducible refine wpAny_field hso hdt f0 ?_) | (with_reducible refine wpAny_field hso hdt f1 ?_) | (with_reducible refine wpAny_field hso hdt f2 ?_)
    | (with_reducible refine ks_wpAny_notOpaque hno ?_)
    | (with_reducible refine Looks.at hC ?_; rw [hl])
    | (refine ks_forIn_along X (fun _ _ => rfl) rfl ?_ hf)
    | (with_reducible refine wpAny_typeOf hTf ?_)
    | (with_reducible refine wpAny_call_entry wd_slot hTf wd_entry ?_ (wd_args _ _ _))
    | (with_reducible refine wpAny_loadPart_at hx ?_)
    | (rw [hxc, ei_cls]; refine hS.at ?_)
    | (with_reducible refine ⟨_, rfl, ?_⟩)
    | (simp only [hn, hne, Bool.or_false, Bool.false_eq_true, if_false])
    | wp_step
    | dsimp only)
  all_goals exact hq

theorem w_superEI {pl : Sem Bool} {so D x C : Addr} {dx : Option Addr} {Q : Value × List Value → Shared → Prop} (R : Rep G ((so, isSup D x C) :: σ) s) (hX : Holds G σ x (isExcU C dx))
    (ho : nsIn G.K cStatics "thirdparty.any" = some none) (hm : ks_superIn G.K C D "__init__" = some (some (.builtin "Exception.__init__"))) (hs : mroIn G.K C (.type "Exception") = some true)
    (h : ∀ q s', Rep G ((q, isMw x) :: σ) s' → Q (.ref q, []) s') : wpAny (model G.prog G.w) A (getMethod (.ref so) "__init__" pl) Q E s := by
  have X : G.K.In s.heap := R.inK
  obtain ⟨os', hso, rfl⟩ := R.cells _ (.head _)
  obtain ⟨ox, hox, tx, rfl⟩ := R.cellH hX.tail
  cases hc : clsIn G.K C with
  | none => unfold ks_superIn at hm; rw [hc] at hm; cases hm
  | some cd =>
    have hne := excU_ne R hX.tail hc
    unfold ks_superIn at hm
    rw [hc] at hm
    have fin := h _ _ (R.drop1.push (c := isMw x) (t := s.toks + 1) { cls := .type "method-wrapper", data := .fields #[.builtin "Exception.__init__", .ref x] } rfl)
    obtain ⟨hh, g, d, t, os⟩ := s
    have hlk := F.ks_slot_super_ga.lookup
    have hcan := F.ks_canon_super_ga
    have hT : ∀ t', (⟨hh, g, d, t', os⟩ : Shared).TypeIs (.ref so) "super" := fun _ => ⟨_, hso, rfl⟩
    unfold getMethod
    refine wpAny_bind (wpAny_specialOf (hT _) hlk ?_)
    show wpAny _ _ (if (Manifest.canonical "super.__getattribute__" != "object.__getattribute__") = true then _ else _) _ _ _
    rw [if_pos hcan]
    unfold getAttr getAttrBy
    refine wpAny_bind (wpAny_bind (wpAny_mkText (wpAny_holding (wpAny_bind (wpAny_typeOf (hT _) (wpAny_bind (wpAny_of_eq hlk ?_)))))))
    show wpAny _ _ (getAttrByItsOwn (.ref so) (.str "__init__" t) (.type "super") (.builtin "super.__getattribute__") true false) _ _ _
    unfold getAttrByItsOwn hookBefore callGetattribute boundAndCalled
    refine wpAny_bind (wpAny_of_eq (show (if onTheHeap (.type "super") then typeLookup (.type "super") "__getattr__" else pure none) = pure none from rfl) ?_)
    refine wpAny_bind (wpAny_attempt (wpAny_holding ?_))
    show wpAny _ _ (bindSpecial (.builtin "super.__getattribute__") (.ref so) >>= _) _ _ _
    refine wpAny_bind (wpAny_of_eq (F.ks_slot_super_ga.bind _) ?_)
    refine wpAny_call_entry F.ks_slot_super_ga (hT _) F.ks_entry_super_ga (u_superEI hso (looks_opaque X ho) (l₀ := cd.mro) (fun A Q E s k q => wpAny_bind ((looks_clsIn X hc) A _ E s k (wpAny_pure q))) rfl X hm hox rfl (looks_mroIn X hs) hne ⟨_, rfl, ?_⟩) (F.ks_gaArgs_super _ _)
    exact wpAny_pure (wpAny_pure fin)

/-- a bound Exception.__init__ is called -/
theorem keeps_mw {q x : Addr} {h : Heap} {M : Model} (hq : h.get? q = some { cls := .type "method-wrapper", data := .fields #[.builtin "Exception.__init__", .ref x] }) : Looks M h (keeperOf (.ref q)) .machine := by
  refine (Looks.ld (part := none) hq).andThen ?_
  dsimp only
  rw [if_pos (by decide +kernel), if_pos (by decide +kernel)]
  exact .now
theorem w_cwMw {q x : Addr} {first : List Value} {e : Expr} {rest : List Expr} {pos : Pos} {Q : Value → Shared → Prop}
    (h : wpAny (model G.prog G.w) A (spliced (backTo pos (starEach (e :: rest) env))) (fun vs s₁ => (∃ σ', Rep G σ' s₁ ∧ Holds G σ' q (isMw x)) ∧ wpAny (model G.prog G.w) A (call (.ref q) (first ++ vs)) Q E s₁) E s)
    (hplain : (backTo pos (starEach (e :: rest) env)).any (·.1) = false := by rfl) (he : starEach (e :: rest) env = (false, eval e env) :: starEach rest env := by rfl) :
    wpAny (model G.prog G.w) A (callWith pos (.ref q) first (backTo pos (starEach (e :: rest) env)) []) Q E s := by
  refine callWith_of (P := fun h => h.get? q = some { cls := .type "method-wrapper", data := .fields #[.builtin "Exception.__init__", .ref x] }) (by rw [hplain]; rfl) (fun h hq => ⟨.machine, .inr (.inl rfl), keeps_mw hq⟩) ?_
  rw [he] at h ⊢
  refine evalArgs_plain (wpAny_mono h (fun vs s₁ ⟨⟨σ', R', hm⟩, h'⟩ => ⟨?_, h'⟩) fun _ _ x => x)
  obtain ⟨o, ho, rfl⟩ := R'.cellH hm
  exact ho
theorem c_mw {q x C : Addr} {dx : Option Addr} {v : Value} {cd : ClassData} {R' : Result → Shared → Prop} (R : Rep G σ s) (hcd : clsIn G.K C = some cd) (hm : Holds G σ q (isMw x)) (hu : Upd σ x (isExcU C dx) (isExcU C dx) σ')
    (h : ∀ s', Rep G σ' s' → R' (.ok (.ret .none)) s') : codeAny (model G.prog G.w) A (.call (.ref q) ⟨[v], []⟩) R' s := by
  obtain ⟨o, hq, rfl⟩ := R.cellH hm
  obtain ⟨ox, hx, t, rfl⟩ := R.cellM hu.mem
  have F := PySem.F.excBase_Exception
  have hstar := F.noStar
  obtain ⟨hh, g, d, tk, os⟩ := s
  refine codeAny_of_tree ?_
  show wpAny _ A.in1 (callAny (.ref q) _) _ _ _
  unfold callAny
  refine wpAny_bind (wpAny_load hq ?_)
  dsimp only
  rw [if_pos (by decide +kernel)]
  show wpAny _ _ (if (Value.type "method-wrapper" != Value.type "method") = true then _ else _) _ _ _
  rw [if_pos (by decide +kernel)]
  simp only [checkBoundCall, F.initKind, F.initRow]
  rw [if_pos (by decide +kernel)]
  show wpAny _ _ (Bind.checkArgs "Exception.__init__" ⟨.positional, "*", "Exception", .self, [⟨"args", .varPos, false⟩]⟩ ⟨[.ref x, v], []⟩ >>= fun _ => again (.builtin "Exception.__init__" ⟨[.ref x, v], []⟩)) _ _ _
  obtain ⟨oC, hoC, hdC⟩ : ∃ oC, hh.get? C = some oC ∧ oC.data = .cls cd := by
    unfold clsIn at hcd
    split at hcd
    · rename_i ho
      cases hcd
      exact ⟨_, R.inK _ _ ho, rfl⟩
    · cases hcd
  refine wpAny_bind ?_
  repeat (first | with_reducible refine wpAny_loadPart_at hoC ?_ | with_reducible refine wpAny_load hoC ?_ | rw [hdC] | wp_step)
  refine ⟨Code.quiet_builtin _ (by decide +kernel), codeAny_builtin F.initEntry ?_⟩
  unfold Builtin.«BaseException.__init__»
  wp_walk
  have R1 := R.push (c := fun _ => True) (t := tk) { cls := .type "tuple", data := .seq #[v] } trivial
  exact h _ (R1.drop1.upd' hu (Heap.SameBut.update ..).extBut ⟨_, Heap.get?_update_self (Obj.mapFields fun x => x.setIfInBounds 0 (Value.ref hh.objs.size)) (Heap.get?_push_of_some _ hx) rfl, _, rfl⟩)
theorem excU_0 {x C : Addr} {dx : Option Addr} (R : Rep G ((x, isExcU C dx) :: σ) s) : Rep G ((x, isExc0 (.ref C)) :: σ) s := R.conv fun _ ⟨t, e⟩ => by subst e; exact ⟨rfl, _, rfl, rfl⟩
end
end Bl

end
section
open PySem PySem.W PyProof.Rows PySem.Calls PyProof
set_option Elab.async false
set_option maxRecDepth 100000
set_option linter.unusedVariables false
set_option maxHeartbeats 2000000
namespace Bl
section
variable {KP : Params → Frag} {G : Gd KP} {A : Around} {E : Value → Shared → Prop} {σ σ' : Led} {s : Shared} {env : Env}
variable {nm q : Str} {C N : Addr} {bs bm : List Value} {hdct : Bool} {sn : List Str} {sub : List Value} {ab : Bool} {col : Option Bool} {dd : Option Addr} {k0 k1 k2 k3 k5 : Option Value} {newId : String}
theorem u_raiseStmt {x : Sem Value} {Q : Flow → Shared → Prop} (hh : A.handled = none) (hK : G.K.lookup C = some (excClassObj nm q C N bs bm hdct sn sub ab col dd k0 k1 k2 k3 k5 newId)) (hB : (Value.ref C :: bm).contains (.type "BaseException") = true)
    (h : wpAny (model G.prog G.w) A x (fun v s₁ => ∃ e dx σ', v = .ref e ∧ Rep G σ' s₁ ∧ Holds G σ' e (isExcU C dx) ∧ E (.ref e) s₁) E s) : wpAny (model G.prog G.w) A (raiseStmt env (some x) none) Q E s := by
  unfold raiseStmt
  refine wpAny_bind (wpAny_mono h (fun v s₁ h₁ => ?_) fun _ _ x => x)
  obtain ⟨e, dx, σ', rfl, R, hX, hE⟩ := h₁
  obtain ⟨oe, he, t, rfl⟩ := R.cellH hX
  have hC := R.inK _ _ hK
  obtain ⟨hp, g, d, tk, os⟩ := s₁
  repeat (first | with_reducible refine wpAny_loadPart_at he ?_ | with_reducible refine wpAny_loadPart_at hC ?_ | (with_reducible refine wpAny_isSubtype_exc hC ?_; rw [hB]) | wp_step)
  exact wpAny_raiseNew_none hh hE
theorem x_RaiseU {exc : Expr} {pos : Pos} {Q : Flow → Shared → Prop} (hh : A.handled = none) (hK : G.K.lookup C = some (excClassObj nm q C N bs bm hdct sn sub ab col dd k0 k1 k2 k3 k5 newId)) (hB : (Value.ref C :: bm).contains (.type "BaseException") = true)
    (h : wpAny (model G.prog G.w) A (eval exc env) (fun v s₁ => ∃ e dx σ', v = .ref e ∧ Rep G σ' s₁ ∧ Holds G σ' e (isExcU C dx) ∧ E (.ref e) s₁) E s) : wpAny (model G.prog G.w) A (exec (.Raise (some exc) none pos) env) Q E s := by
  rw [arm_exec_Raise]
  refine wpAny_bind (wpAny_standAt ?_)
  refine u_raiseStmt (x := do let v ← eval exc env; standAt pos; pure v) hh hK hB ?_
  exact wpAny_bind (wpAny_mono h (fun v s₁ h₁ => wpAny_bind (wpAny_standAt (wpAny_pure h₁))) fun _ _ x => x)
end
end Bl

end
section
open PySem PySem.W PyProof.Rows PySem.Calls PyProof PyProof.V PySem.Spec PySem.SeqAt
set_option Elab.async false
set_option maxRecDepth 100000
set_option linter.unusedVariables false
set_option maxHeartbeats 2000000
namespace Bl
section
variable {KP : Params → Frag} {G : Gd KP} {A : Around} {E : Value → Shared → Prop} {σ σ' : Led} {s : Shared} {env : Env}

theorem w_setFlight {e T : Addr} {c : Value} {Q : Unit → Shared → Prop} (R : Rep G ((e, isExcT c T) :: (T, isTb) :: σ) s) (h : ∀ s', Rep G ((e, isExcT c T) :: (T, isTb) :: σ) s' → Q () s') : wpAny (model G.prog G.w) A (setFlight (.ref e) none) Q E s := by
  obtain ⟨oe, he, hc, vs, hd, h1⟩ := R.cells _ (.head _)
  obtain ⟨oT, hT, ts, hdT, h3⟩ := R.cells _ (.tail _ (.head _))
  have hsz := (Array.getElem?_eq_some_iff.mp h3).1
  refine wpAny_setFlight_none he hd h1 hT hdT hsz (h _ (R.upd' (.tail .head) (Heap.SameBut.update ..).extBut ⟨_, Heap.get?_update_self (Obj.mapFields (·.setIfInBounds 3 .none)) hT ?_, ts.setIfInBounds 3 .none, ?_, ?_⟩))
  · obtain ⟨c1, c2, c3, c4⟩ := oT; dsimp only at hdT; subst hdT; rfl
  · obtain ⟨c1, c2, c3, c4⟩ := oT; dsimp only at hdT; subst hdT; rfl
  · rw [Array.getElem?_setIfInBounds]; simp [hsz]

variable {nm q : Str} {C N : Addr} {bs bm : List Value} {hdct : Bool} {sn : List Str} {sub : List Value} {ab : Bool} {col : Option Bool} {dd : Option Addr} {k0 k1 k2 k3 k5 : Option Value} {newId : String}
variable {e T : Addr} {t : Expr} {b₀ : Stmt} {suite : List Stmt} {pos : Pos} {rest : List ExceptHandler} {Q : Flow → Shared → Prop} {X Y : String}
/-- an exception of a class of the text is caught by that class -/
theorem w_catchU (R : Rep G ((e, isExcT (.ref C) T) :: (T, isTb) :: σ) s) (hK : G.K.lookup C = some (excClassObj nm q C N bs bm hdct sn sub ab col dd k0 k1 k2 k3 k5 newId)) (hB : bm.contains (.type "BaseException") = true)
    (hn : ∀ {A : Around} {E : Value → Shared → Prop} {Q : Value → Shared → Prop}, Q (.ref C) s → wpAny (model G.prog G.w) A (eval t env) Q E s)
    (h : ∀ E' s', Rep G ((e, isExcT (.ref C) T) :: (T, isTb) :: σ) s' → wpAny (model G.prog G.w) (A.mark (some (.ref e))) (execs (b₀ :: suite) env) Q E' s') :
    wpAny (model G.prog G.w) A (handleBy (.ref e) env (.ExceptHandler (some t) none (b₀ :: suite) pos :: rest)) Q E s := by
  refine wpAny_handleBy_cons (codeAny_handlers_test (hn ?_)) (by intro q; cases q)
  obtain ⟨oe, he, hc, _⟩ := R.cells _ (.head _)
  have hC := R.inK _ _ hK
  refine wpAny_excMatches_sub_self hC he hc hB (codeAny_handlers_suite ?_)
  refine w_setFlight R fun s' R' => ?_
  exact h _ s' R'
theorem excMatches_no {M : Model} {h : Heap} {g : Array GenState} {d : Drawn} {tk : Nat} {os : OsState} {oe : Obj} {Q : Bool → Shared → Prop}
    (hC : h.get? C = some (excClassObj nm q C N bs bm hdct sn sub ab col dd k0 k1 k2 k3 k5 newId)) (he : h.get? e = some oe) (hcls : oe.cls = .type X) (hbase : bm.contains (.type "BaseException") = true) (hs : isSubtype (.type X) (.ref C) = pure false)
    (hq : Q false ⟨h, g, d, tk, os⟩) : wpAny M A (excMatches (.ref e) (.ref C)) Q E ⟨h, g, d, tk, os⟩ := by
  have hcB : (Value.ref C :: bm).contains (.type "BaseException") = true := by rw [List.contains_cons, hbase, Bool.or_true]
  have f := tc_notTuple
  unfold excMatches
  repeat (first | (with_reducible refine wpAny_loadPart_at he ?_; rw [hcls]) | with_reducible refine wpAny_loadPart_at hC ?_ | (with_reducible refine wpAny_isSubtype_exc hC ?_; rw [hcB]) | rw [hs] | wp_step)
  exact hq
/-- a built-in exception passes a handler for a class of the text -/
theorem w_missU (R : Rep G ((e, isExcT (.type X) T) :: (T, isTb) :: σ) s) (hK : G.K.lookup C = some (excClassObj nm q C N bs bm hdct sn sub ab col dd k0 k1 k2 k3 k5 newId)) (hB : bm.contains (.type "BaseException") = true) (hs : isSubtype (.type X) (.ref C) = pure false)
    (hn : ∀ {A : Around} {E : Value → Shared → Prop} {Q : Value → Shared → Prop}, Q (.ref C) s → wpAny (model G.prog G.w) A (eval t env) Q E s)
    (h : wpAny (model G.prog G.w) A (handleBy (.ref e) env rest) Q E s) :
    wpAny (model G.prog G.w) A (handleBy (.ref e) env (.ExceptHandler (some t) none (b₀ :: suite) pos :: rest)) Q E s := by
  refine wpAny_handleBy_cons (codeAny_handlers_test (hn ?_)) (by intro q; cases q)
  obtain ⟨oe, he, hc, _⟩ := R.cells _ (.head _)
  have hC := R.inK _ _ hK
  exact excMatches_no hC he hc hB hs h
theorem w_catchB (R : Rep G ((e, isExcT (.type X) T) :: (T, isTb) :: σ) s) (hexc : isSubtype (.type Y) (.type "BaseException") = pure true) (hnt : isSubtype (.type ((Manifest.find? Y).elim "type" fun x => x.metatype)) (.type "tuple") = pure false) (hsub : isSubtype (.type X) (.type Y) = pure true)
    (hn : ∀ {A : Around} {E : Value → Shared → Prop} {Q : Value → Shared → Prop}, Q (.type Y) s → wpAny (model G.prog G.w) A (eval t env) Q E s)
    (h : ∀ E' s', Rep G ((e, isExcT (.type X) T) :: (T, isTb) :: σ) s' → wpAny (model G.prog G.w) (A.mark (some (.ref e))) (execs (b₀ :: suite) env) Q E' s') :
    wpAny (model G.prog G.w) A (handleBy (.ref e) env (.ExceptHandler (some t) none (b₀ :: suite) pos :: rest)) Q E s := by
  obtain ⟨oe, he, hc, _⟩ := R.cells _ (.head _)
  refine wpAny_handleBy_builtin (b := true) hexc hnt hsub (hn ⟨rfl, ⟨oe, he, hc⟩, ?_⟩)
  rw [if_pos rfl]
  refine w_setFlight R fun s' R' => ?_
  exact h _ s' R'
theorem w_missB (R : Rep G ((e, isExcT (.type X) T) :: (T, isTb) :: σ) s) (hexc : isSubtype (.type Y) (.type "BaseException") = pure true) (hnt : isSubtype (.type ((Manifest.find? Y).elim "type" fun x => x.metatype)) (.type "tuple") = pure false) (hsub : isSubtype (.type X) (.type Y) = pure false)
    (hn : ∀ {A : Around} {E : Value → Shared → Prop} {Q : Value → Shared → Prop}, Q (.type Y) s → wpAny (model G.prog G.w) A (eval t env) Q E s)
    (h : wpAny (model G.prog G.w) A (handleBy (.ref e) env rest) Q E s) :
    wpAny (model G.prog G.w) A (handleBy (.ref e) env (.ExceptHandler (some t) none (b₀ :: suite) pos :: rest)) Q E s := by
  obtain ⟨oe, he, hc, _⟩ := R.cells _ (.head _)
  refine wpAny_handleBy_builtin (b := false) hexc hnt hsub (hn ⟨rfl, ⟨oe, he, hc⟩, ?_⟩)
  rw [if_neg (by decide)]
  exact h

/-! lists of one str; lists of two lists of ints: equal ones -/
theorem reads_str1 {l : Addr} {x : Str} {t : Tok} (R : Rep G σ s) (hm : Holds G σ l (isLst [.str x t])) : Reads s.heap (.ref l) (.list [.str x]) [l] := by
  obtain ⟨o, ho, hc, n, hd⟩ := R.cellH hm
  exact Reads.list ho hc hd (.cons (.str x t) .nil)
theorem w_eqS1 {l l' : Addr} {x : Str} {t u : Tok} {Q : Value → Shared → Prop} (R : Rep G σ s) (h1 : Holds G σ l (isLst [.str x t])) (h2 : Holds G σ l' (isLst [.str x u])) (hu : A.units + 64 < cLine) (hsh : shaped (.list [.str x]) = true) (h : Q (.bool true) s) :
    wpAny (model G.prog G.w) A (compareOp .Eq (.ref l) (.ref l')) Q E s :=
  eq_dataH_same (reads_str1 R h1) (reads_str1 R h2) hsh hsh hu (by simp [noMix, noMixAll]) (by rw [same_refl]; exact h)
theorem w_neS1 {l l' : Addr} {x : Str} {t u : Tok} {Q : Value → Shared → Prop} (R : Rep G σ s) (h1 : Holds G σ l (isLst [.str x t])) (h2 : Holds G σ l' (isLst [.str x u])) (hu : A.units + 64 < cLine) (hsh : shaped (.list [.str x]) = true) (h : Q (.bool false) s) :
    wpAny (model G.prog G.w) A (compareOp .NotEq (.ref l) (.ref l')) Q E s :=
  ne_dataH_same (reads_str1 R h1) (reads_str1 R h2) hsh hsh hu (by simp [noMix, noMixAll]) (by rw [same_refl]; exact h)
theorem reads_LL {l a b : Addr} {ns ms : List Int} (R : Rep G σ s) (hm : Holds G σ l (isLst [.ref a, .ref b])) (ha : Holds G σ a (isInts ns)) (hb : Holds G σ b (isInts ms)) : Reads s.heap (.ref l) (.list [.list (ns.map PyData.int), .list (ms.map PyData.int)]) [l, a, b] := by
  obtain ⟨o, ho, hc, n, hd⟩ := R.cellH hm
  obtain ⟨oa, hoa, vs, hi, hl⟩ := R.cellH ha
  obtain ⟨ob, hob, us, hi', hl'⟩ := R.cellH hb
  exact Reads.list ho hc hd (.cons (reads_of_ints (isLst.lst ⟨oa, hoa, hl⟩) hi) (.cons (reads_of_ints (isLst.lst ⟨ob, hob, hl'⟩) hi') .nil))
theorem shaped_LL (ns ms : List Int) : shaped (.list [.list (ns.map PyData.int), .list (ms.map PyData.int)]) = true := by
  have h1 := W.depthAll_ints ns
  have h2 := W.depthAll_ints ms
  have h3 : PyData.depth (.list [.list (ns.map PyData.int), .list (ms.map PyData.int)]) ≤ 64 := by simp only [PyData.depth, PyData.depthAll]; omega
  show (PyData.canLay0 _ && decide (PyData.depth _ ≤ 64)) = true
  rw [Bool.and_eq_true]
  refine ⟨?_, decide_eq_true h3⟩
  simp [PyData.canLay0, PyData.canLayAll0, canLayAll0_ints]
theorem w_eqLL {l a b l' a' b' : Addr} {ns ms : List Int} {Q : Value → Shared → Prop} (R : Rep G σ s) (hm : Holds G σ l (isLst [.ref a, .ref b])) (ha : Holds G σ a (isInts ns)) (hb : Holds G σ b (isInts ms))
    (hm' : Holds G σ l' (isLst [.ref a', .ref b'])) (ha' : Holds G σ a' (isInts ns)) (hb' : Holds G σ b' (isInts ms)) (hu : A.units + 64 < cLine) (h : Q (.bool true) s) : wpAny (model G.prog G.w) A (compareOp .Eq (.ref l) (.ref l')) Q E s :=
  eq_dataH_same (reads_LL R hm ha hb) (reads_LL R hm' ha' hb') (shaped_LL ns ms) (shaped_LL ns ms) hu (by simp [noMix, noMixAll, noMix_ints]) (by rw [same_refl]; exact h)
end
end Bl

end
section
open PySem PySem.W PyProof.Rows PySem.Calls PyProof
set_option Elab.async false
set_option maxRecDepth 100000
set_option linter.unusedVariables false
set_option maxHeartbeats 2000000
namespace Bl
section
variable {KP : Params → Frag} {G : Gd KP} {A : Around} {E : Value → Shared → Prop} {σ σ' : Led} {s : Shared} {env : Env} {t u : Tok}

def isSlc (lo hi : Value) : Cell := fun o => o = { cls := .type "slice", data := .fields #[lo, hi, .none] }
theorem w_SliceTo {e : Expr} {p : Pos} {Q : Value → Shared → Prop} (h : wpAny (model G.prog G.w) A (eval e env) (fun v s₁ => ∃ σ', Rep G σ' s₁ ∧ ∀ i s', Rep G ((i, isSlc .none v) :: σ') s' → Q (.ref i) s') E s) : wpAny (model G.prog G.w) A (eval (.Slice none (some e) none p) env) Q E s := by
  refine wpAny_Slice ?_
  show wpAny _ _ (pure Value.none) _ _ _
  refine wpAny_pure ?_
  refine wpAny_mono h (fun v s₁ ⟨σ', R, h'⟩ => ?_) fun _ _ x => x
  show wpAny _ _ (pure Value.none) _ _ _
  refine wpAny_pure ?_
  exact h' _ _ (R.push (c := isSlc .none v) (t := s₁.toks) { cls := .type "slice", data := .fields #[.none, v, .none] } rfl)
theorem w_SliceFrom {e : Expr} {p : Pos} {Q : Value → Shared → Prop} (h : wpAny (model G.prog G.w) A (eval e env) (fun v s₁ => ∃ σ', Rep G σ' s₁ ∧ ∀ i s', Rep G ((i, isSlc v .none) :: σ') s' → Q (.ref i) s') E s) : wpAny (model G.prog G.w) A (eval (.Slice (some e) none none p) env) Q E s := by
  refine wpAny_Slice ?_
  refine wpAny_mono h (fun v s₁ ⟨σ', R, h'⟩ => ?_) fun _ _ x => x
  show wpAny _ _ (pure Value.none) _ _ _
  refine wpAny_pure ?_
  show wpAny _ _ (pure Value.none) _ _ _
  refine wpAny_pure ?_
  exact h' _ _ (R.push (c := isSlc v .none) (t := s₁.toks) { cls := .type "slice", data := .fields #[v, .none, .none] } rfl)
theorem w_cutTo {value slice : Expr} {l i : Addr} {ns : List Int} {y : Int} {Q : Value → Shared → Prop} (R : Rep G σ s) (hm : Holds G σ l (isInts ns)) (hi' : Holds G σ i (isSlc .none (.int y t))) (hy : 0 ≤ y) (hz : ns.length ≤ sizeLine)
    (h : ∀ l' s', Rep G ((l', isInts (ns.take y.toNat)) :: σ) s' → Q (.ref l') s')
    (hs : subscripted slice false (.ref l) (.ref i) = operate [.ref i, .ref l] (getItem (.ref l) (.ref i)) := by with_unfolding_all rfl)
    (ht : ∀ r, letTemporaryGo value (.ref l) r = pure () := by intro _; with_unfolding_all rfl) : wpAny (model G.prog G.w) A (subscriptTail value slice (.ref l) (.ref i)) Q E s := by
  obtain ⟨o, ho, vs, hv, hl⟩ := R.cellH hm
  have hl' := isLst.lst ⟨o, ho, hl⟩
  obtain ⟨oi, hoi, rfl⟩ := R.cellH hi'
  refine subscriptTail_ops hl'.typeIs list_getitem_lookup (wpAny_getItem_list_slice (lo := none) (hi := some y) hl' ⟨_, hoi, rfl, rfl⟩ .none (.int y t) .none (by simp) ?_ (by simpa [hv.length] using hz)) hs ht
  exact h _ _ (R.push (c := isInts (ns.take y.toNat)) (t := s.toks) { cls := .type "list", data := .seq (slicePick vs.toArray none (some y) none) } ⟨_, kmk_upto hv hy, rfl, 0, by rw [Array.toArray_toList]⟩)
theorem w_cutFrom {value slice : Expr} {l i : Addr} {ns : List Int} {x : Int} {Q : Value → Shared → Prop} (R : Rep G σ s) (hm : Holds G σ l (isInts ns)) (hi' : Holds G σ i (isSlc (.int x t) .none)) (hx : 0 ≤ x) (hz : ns.length ≤ sizeLine)
    (h : ∀ l' s', Rep G ((l', isInts (ns.drop x.toNat)) :: σ) s' → Q (.ref l') s')
    (hs : subscripted slice false (.ref l) (.ref i) = operate [.ref i, .ref l] (getItem (.ref l) (.ref i)) := by with_unfolding_all rfl)
    (ht : ∀ r, letTemporaryGo value (.ref l) r = pure () := by intro _; with_unfolding_all rfl) : wpAny (model G.prog G.w) A (subscriptTail value slice (.ref l) (.ref i)) Q E s := by
  obtain ⟨o, ho, vs, hv, hl⟩ := R.cellH hm
  have hl' := isLst.lst ⟨o, ho, hl⟩
  obtain ⟨oi, hoi, rfl⟩ := R.cellH hi'
  refine subscriptTail_ops hl'.typeIs list_getitem_lookup (wpAny_getItem_list_slice (lo := some x) (hi := none) hl' ⟨_, hoi, rfl, rfl⟩ (.int x t) .none .none (by simp) ?_ (by simpa [hv.length] using hz)) hs ht
  exact h _ _ (R.push (c := isInts (ns.drop x.toNat)) (t := s.toks) { cls := .type "list", data := .seq (slicePick vs.toArray (some x) none none) } ⟨_, kmk_from hv hx, rfl, 0, by rw [Array.toArray_toList]⟩)
theorem w_addL {l b : Addr} {ns ms : List Int} {Q : Value → Shared → Prop} (R : Rep G σ s) (hm : Holds G σ l (isInts ns)) (hb : Holds G σ b (isInts ms)) (hz : ns.length + ms.length ≤ sizeLine) (h : ∀ l' s', Rep G ((l', isInts (ns ++ ms)) :: σ) s' → Q (.ref l') s') :
    wpAny (model G.prog G.w) A (binaryOp .Add (.ref l) (.ref b)) Q E s := by
  obtain ⟨⟨c1, d1, a1, s1⟩, ho, vs, hv, hc, n, hd⟩ := R.cellH hm
  obtain ⟨⟨c2, d2, a2, s2⟩, ho2, ws, hw, hc2, n2, hd2⟩ := R.cellH hb
  dsimp only at hc hd hc2 hd2
  subst hc hd hc2 hd2
  refine concat_meets ⟨_, ho, rfl⟩ ⟨_, ho2, rfl⟩ noFill_list_add seq_list_add PySem.F.slot_list_add PySem.F.entry_list_add (PySem.F.args_list_add_2 _ _) (list_addW l b vs.toArray ws.toArray n n2 d1 d2 s1 s2 (by simpa [hv.length, hw.length] using hz)) ⟨ho, ho2, ?_⟩
  exact h _ _ (R.push (c := isInts (ns ++ ms)) (t := s.toks) _ ⟨_, hv.append hw, rfl, 0, by simp⟩)
theorem eqG_ints {k : Int} : ∀ {vs : List Value} {ns : List Int}, IntsAre vs ns → ∀ y ∈ vs, MeetsSeq.EqGives y (.int k t) (isInt k y)
  | _, _, .nil, y, hy => by cases hy
  | _, _, .cons n u r, y, hy => by
    rcases List.mem_cons.mp hy with rfl | hy
    · exact MeetsSeq.EqGives.int n k u t
    · exact eqG_ints r y hy
theorem any_ints {k : Int} : ∀ {vs : List Value} {ns : List Int}, IntsAre vs ns → vs.any (isInt k) = decide (k ∈ ns)
  | _, _, .nil => rfl
  | _, _, .cons n u r => by
    rw [List.any_cons, any_ints r]
    show ((n == k) || _) = _
    by_cases h : n = k
    · subst h; simp
    · have h' : ¬ k = n := fun q => h q.symm
      simp [h, h']
theorem w_inI {k : Int} {l : Addr} {ns : List Int} {Q : Value → Shared → Prop} (R : Rep G σ s) (hm : Holds G σ l (isInts ns)) (h : Q (.bool (decide (k ∈ ns))) s) : wpAny (model G.prog G.w) A (compareOp .In (.int k t) (.ref l)) Q E s := by
  obtain ⟨o, ho, vs, hv, hl⟩ := R.cellH hm
  exact SeqInW.in_listW (isInt k) (fun y hy => eqG_ints hv y (by simpa using hy)) (isLst.lst ⟨o, ho, hl⟩) (by simpa [any_ints hv] using h)
theorem w_inM {x C dx f : Addr} {svs : List SV} {v : Value} {Q : Value → Shared → Prop} (R : Rep G σ s) (hm : Holds G σ x (obj C dx svs)) (hdx : Holds G σ dx isAny) (hs : findIn G.K (.ref C) "__contains__" = some (some (.ref f))) (hf : W.isFn G.K (.ref f) = true)
    (h : wpAny (model G.prog G.w) A (call (.ref f) [.ref x, v]) (fun r s' => wpAny (model G.prog G.w) A (truthy r) (fun b => Q (.bool b)) E s') E s) : wpAny (model G.prog G.w) A (compareOp .In v (.ref x)) Q E s := by
  obtain ⟨od', hod, rfl⟩ := R.cellH hdx
  obtain ⟨o, ho, sl, rfl, hok⟩ := R.cellH hm
  have I := instAt ho hod
  refine wpAny_bind ?_
  unfold contains
  refine wpAny_holding (wpAny_bind (wpAny_bind (I.type.here ((looks_findIn R.inK hs).here ?_))))
  rw [if_neg (by simp)]
  exact wpAny_bind (unlessNone_K R.inK I hs hf (wpAny_mono h (fun _ _ z => wpAny_mono z (fun _ _ z => wpAny_pure z) fun _ _ z => z) fun _ _ z => z))
theorem cells12 {P : List (Str × Addr) → Prop} {n1 n2 n3 n4 n5 n6 n7 n8 n9 n10 n11 n12 : Str} (h : ∀ a1 a2 a3 a4 a5 a6 a7 a8 a9 a10 a11 a12, P [(n1, a1), (n2, a2), (n3, a3), (n4, a4), (n5, a5), (n6, a6), (n7, a7), (n8, a8), (n9, a9), (n10, a10), (n11, a11), (n12, a12)]) :
    ∀ cl : List (Str × Addr), cl.map (·.1) = [n1, n2, n3, n4, n5, n6, n7, n8, n9, n10, n11, n12] → P cl := fun cl e => by
  match cl, e with
  | [(_, a1), (_, a2), (_, a3), (_, a4), (_, a5), (_, a6), (_, a7), (_, a8), (_, a9), (_, a10), (_, a11), (_, a12)], e =>
    simp only [List.map_cons, List.map_nil, List.cons.injEq, and_true] at e
    obtain ⟨rfl, rfl, rfl, rfl, rfl, rfl, rfl, rfl, rfl, rfl, rfl, rfl⟩ := e
    exact h _ _ _ _ _ _ _ _ _ _ _ _
end
end Bl

end
section
open PySem PySem.W PyProof.Rows PySem.Calls PyProof
set_option Elab.async false
set_option maxRecDepth 100000
set_option linter.unusedVariables false
namespace Bl
section
variable {KP : Params → Frag} {G : Gd KP} {A : Around} {E : Value → Shared → Prop} {σ σ' : Led} {s : Shared} {env : Env} {L : Addr} {sc : Scope} {cl : List (Str × Addr)} {cd : Value}
/-- a comprehension stored under a name that lies in a cell -/
theorem x_AssignCellComp {elt target iter : Expr} {ifs : List Expr} {scope : Scope} {pos spos py : Pos} {y : Str} {Q : Flow → Shared → Prop} (he : EnvIs env sc L cl cd)
    (h : wpAny (model G.prog G.w) A (eval (.ListComp elt [⟨target, iter, ifs, 0⟩] scope pos) env) (fun v s₁ => wpAny (model G.prog G.w) A (storeName env y v) (fun _ => Q .next) E s₁) E s) (hy : sc.names.lookup y = some .cell := by kernel_rfl) :
    wpAny (model G.prog G.w) A (exec (.Assign [.Name y py] (.ListComp elt [⟨target, iter, ifs, 0⟩] scope pos) spos) env) Q E s := by
  refine wpAny_Assign_Name h ?_
  show (pure (env.blockKind == .function && env.kindOf y == some .local && py.line == pos.line && !(scope.names.any fun (n, k) => n == y && (k == .local || k == .cell))) : Sem Bool) = pure false
  rw [he.kindOf hy]
  have e : (some NameKind.cell == some NameKind.local) = false := by decide
  rw [e, Bool.and_false, Bool.false_and, Bool.false_and]
theorem ite_bne {x y : Int} {X Y : Prop} (h1 : x ≠ y → X) (h2 : x = y → Y) : if (x != y) = true then X else Y := by
  by_cases h : x = y
  · rw [if_neg (by simp [h])]; exact h2 h
  · rw [if_pos (by simpa using h)]; exact h1 h
end
end Bl

end
section
open PySem PySem.W PyProof.Rows PySem.Calls PyProof Bl
set_option linter.unusedVariables false
set_option maxHeartbeats 8000000
namespace Bl
section
variable {G : Gd hd.heap_39} {A : Around} {E : Value → Shared → Prop} {σ τ : Led} {s : Shared}
theorem gv445_bloom {x dx : Addr} {svs : List SV} {v : Value} {e : Bool} {Q : Value → Shared → Prop} (R : Rep G σ s) (hm : Holds G σ x (obj 445 dx svs)) (hdx : Holds G σ dx isAny) (hv : svs.getD 2 .no = .va v) (h : ∀ s', Rep G σ s' → Q v s') (hh : handedIn v = true := by with_unfolding_all rfl) : wpAny (model G.prog G.w) A (getAttr (.ref x) (Str.ofString "_bloom") e) Q E s := w_slotV 2 R hm hdx hv (by kernel_rfl) h hh
theorem sv445_bloom {x dx : Addr} {svs svs' : List SV} {v : Value} {σ' : Led} {Q : Unit → Shared → Prop} (R : Rep G σ s) (hu : Upd σ x (obj 445 dx svs) (obj 445 dx svs') σ') (hdx : Holds G σ dx isAny) (e : svs.set 2 (.va v) = svs') (hl : 2 < svs.length) (h : ∀ s', Rep G σ' s' → Q () s') : wpAny (model G.prog G.w) A (setAttr (.ref x) (Str.ofString "_bloom") v) Q E s := w_setslot 2 R hu hdx (by kernel_rfl) e rfl hl h
theorem gi445_bloom_length {x dx : Addr} {svs : List SV} {n : Int} {e : Bool} {Q : Value → Shared → Prop} (R : Rep G σ s) (hm : Holds G σ x (obj 445 dx svs)) (hdx : Holds G σ dx isAny) (hv : svs.getD 3 .no = .nu n) (h : ∀ t s', Rep G σ s' → Q (.int n t) s') : wpAny (model G.prog G.w) A (getAttr (.ref x) (Str.ofString "_bloom_length") e) Q E s := w_slotI 3 R hm hdx hv (by kernel_rfl) h
theorem si445_bloom_length {x dx : Addr} {svs svs' : List SV} {n : Int} {t : Tok} {σ' : Led} {Q : Unit → Shared → Prop} (R : Rep G σ s) (hu : Upd σ x (obj 445 dx svs) (obj 445 dx svs') σ') (hdx : Holds G σ dx isAny) (e : svs.set 3 (.nu n) = svs') (hl : 3 < svs.length) (h : ∀ s', Rep G σ' s' → Q () s') : wpAny (model G.prog G.w) A (setAttr (.ref x) (Str.ofString "_bloom_length") (.int n t)) Q E s := w_setslot 3 R hu hdx (by kernel_rfl) e ⟨t, rfl⟩ hl h
theorem gi445_els_added {x dx : Addr} {svs : List SV} {n : Int} {e : Bool} {Q : Value → Shared → Prop} (R : Rep G σ s) (hm : Holds G σ x (obj 445 dx svs)) (hdx : Holds G σ dx isAny) (hv : svs.getD 4 .no = .nu n) (h : ∀ t s', Rep G σ s' → Q (.int n t) s') : wpAny (model G.prog G.w) A (getAttr (.ref x) (Str.ofString "_els_added") e) Q E s := w_slotI 4 R hm hdx hv (by kernel_rfl) h
theorem si445_els_added {x dx : Addr} {svs svs' : List SV} {n : Int} {t : Tok} {σ' : Led} {Q : Unit → Shared → Prop} (R : Rep G σ s) (hu : Upd σ x (obj 445 dx svs) (obj 445 dx svs') σ') (hdx : Holds G σ dx isAny) (e : svs.set 4 (.nu n) = svs') (hl : 4 < svs.length) (h : ∀ s', Rep G σ' s' → Q () s') : wpAny (model G.prog G.w) A (setAttr (.ref x) (Str.ofString "_els_added") (.int n t)) Q E s := w_setslot 4 R hu hdx (by kernel_rfl) e ⟨t, rfl⟩ hl h
theorem gi445_est_elements {x dx : Addr} {svs : List SV} {n : Int} {e : Bool} {Q : Value → Shared → Prop} (R : Rep G σ s) (hm : Holds G σ x (obj 445 dx svs)) (hdx : Holds G σ dx isAny) (hv : svs.getD 5 .no = .nu n) (h : ∀ t s', Rep G σ s' → Q (.int n t) s') : wpAny (model G.prog G.w) A (getAttr (.ref x) (Str.ofString "_est_elements") e) Q E s := w_slotI 5 R hm hdx hv (by kernel_rfl) h
theorem si445_est_elements {x dx : Addr} {svs svs' : List SV} {n : Int} {t : Tok} {σ' : Led} {Q : Unit → Shared → Prop} (R : Rep G σ s) (hu : Upd σ x (obj 445 dx svs) (obj 445 dx svs') σ') (hdx : Holds G σ dx isAny) (e : svs.set 5 (.nu n) = svs') (hl : 5 < svs.length) (h : ∀ s', Rep G σ' s' → Q () s') : wpAny (model G.prog G.w) A (setAttr (.ref x) (Str.ofString "_est_elements") (.int n t)) Q E s := w_setslot 5 R hu hdx (by kernel_rfl) e ⟨t, rfl⟩ hl h
theorem gi445_fpr {x dx : Addr} {svs : List SV} {n : Int} {e : Bool} {Q : Value → Shared → Prop} (R : Rep G σ s) (hm : Holds G σ x (obj 445 dx svs)) (hdx : Holds G σ dx isAny) (hv : svs.getD 6 .no = .nu n) (h : ∀ t s', Rep G σ s' → Q (.int n t) s') : wpAny (model G.prog G.w) A (getAttr (.ref x) (Str.ofString "_fpr") e) Q E s := w_slotI 6 R hm hdx hv (by kernel_rfl) h
theorem si445_fpr {x dx : Addr} {svs svs' : List SV} {n : Int} {t : Tok} {σ' : Led} {Q : Unit → Shared → Prop} (R : Rep G σ s) (hu : Upd σ x (obj 445 dx svs) (obj 445 dx svs') σ') (hdx : Holds G σ dx isAny) (e : svs.set 6 (.nu n) = svs') (hl : 6 < svs.length) (h : ∀ s', Rep G σ' s' → Q () s') : wpAny (model G.prog G.w) A (setAttr (.ref x) (Str.ofString "_fpr") (.int n t)) Q E s := w_setslot 6 R hu hdx (by kernel_rfl) e ⟨t, rfl⟩ hl h
theorem gv445_hash_func {x dx : Addr} {svs : List SV} {v : Value} {e : Bool} {Q : Value → Shared → Prop} (R : Rep G σ s) (hm : Holds G σ x (obj 445 dx svs)) (hdx : Holds G σ dx isAny) (hv : svs.getD 7 .no = .va v) (h : ∀ s', Rep G σ s' → Q v s') (hh : handedIn v = true := by with_unfolding_all rfl) : wpAny (model G.prog G.w) A (getAttr (.ref x) (Str.ofString "_hash_func") e) Q E s := w_slotV 7 R hm hdx hv (by kernel_rfl) h hh
theorem sv445_hash_func {x dx : Addr} {svs svs' : List SV} {v : Value} {σ' : Led} {Q : Unit → Shared → Prop} (R : Rep G σ s) (hu : Upd σ x (obj 445 dx svs) (obj 445 dx svs') σ') (hdx : Holds G σ dx isAny) (e : svs.set 7 (.va v) = svs') (hl : 7 < svs.length) (h : ∀ s', Rep G σ' s' → Q () s') : wpAny (model G.prog G.w) A (setAttr (.ref x) (Str.ofString "_hash_func") v) Q E s := w_setslot 7 R hu hdx (by kernel_rfl) e rfl hl h
theorem gi445_num_bits {x dx : Addr} {svs : List SV} {n : Int} {e : Bool} {Q : Value → Shared → Prop} (R : Rep G σ s) (hm : Holds G σ x (obj 445 dx svs)) (hdx : Holds G σ dx isAny) (hv : svs.getD 8 .no = .nu n) (h : ∀ t s', Rep G σ s' → Q (.int n t) s') : wpAny (model G.prog G.w) A (getAttr (.ref x) (Str.ofString "_num_bits") e) Q E s := w_slotI 8 R hm hdx hv (by kernel_rfl) h
theorem si445_num_bits {x dx : Addr} {svs svs' : List SV} {n : Int} {t : Tok} {σ' : Led} {Q : Unit → Shared → Prop} (R : Rep G σ s) (hu : Upd σ x (obj 445 dx svs) (obj 445 dx svs') σ') (hdx : Holds G σ dx isAny) (e : svs.set 8 (.nu n) = svs') (hl : 8 < svs.length) (h : ∀ s', Rep G σ' s' → Q () s') : wpAny (model G.prog G.w) A (setAttr (.ref x) (Str.ofString "_num_bits") (.int n t)) Q E s := w_setslot 8 R hu hdx (by kernel_rfl) e ⟨t, rfl⟩ hl h
theorem gi445_number_hashes {x dx : Addr} {svs : List SV} {n : Int} {e : Bool} {Q : Value → Shared → Prop} (R : Rep G σ s) (hm : Holds G σ x (obj 445 dx svs)) (hdx : Holds G σ dx isAny) (hv : svs.getD 9 .no = .nu n) (h : ∀ t s', Rep G σ s' → Q (.int n t) s') : wpAny (model G.prog G.w) A (getAttr (.ref x) (Str.ofString "_number_hashes") e) Q E s := w_slotI 9 R hm hdx hv (by kernel_rfl) h
theorem si445_number_hashes {x dx : Addr} {svs svs' : List SV} {n : Int} {t : Tok} {σ' : Led} {Q : Unit → Shared → Prop} (R : Rep G σ s) (hu : Upd σ x (obj 445 dx svs) (obj 445 dx svs') σ') (hdx : Holds G σ dx isAny) (e : svs.set 9 (.nu n) = svs') (hl : 9 < svs.length) (h : ∀ s', Rep G σ' s' → Q () s') : wpAny (model G.prog G.w) A (setAttr (.ref x) (Str.ofString "_number_hashes") (.int n t)) Q E s := w_setslot 9 R hu hdx (by kernel_rfl) e ⟨t, rfl⟩ hl h
theorem sv445_on_disk {x dx : Addr} {svs svs' : List SV} {v : Value} {σ' : Led} {Q : Unit → Shared → Prop} (R : Rep G σ s) (hu : Upd σ x (obj 445 dx svs) (obj 445 dx svs') σ') (hdx : Holds G σ dx isAny) (e : svs.set 10 (.va v) = svs') (hl : 10 < svs.length) (h : ∀ s', Rep G σ' s' → Q () s') : wpAny (model G.prog G.w) A (setAttr (.ref x) (Str.ofString "_on_disk") v) Q E s := w_setslot 10 R hu hdx (by kernel_rfl) e rfl hl h
theorem sv445_filepath {x dx : Addr} {svs svs' : List SV} {v : Value} {σ' : Led} {Q : Unit → Shared → Prop} (R : Rep G σ s) (hu : Upd σ x (obj 445 dx svs) (obj 445 dx svs') σ') (hdx : Holds G σ dx isAny) (e : svs.set 0 (.va v) = svs') (hl : 0 < svs.length) (h : ∀ s', Rep G σ' s' → Q () s') : wpAny (model G.prog G.w) A (setAttr (.ref x) (Str.ofString "_filepath") v) Q E s := w_setslot 0 R hu hdx (by kernel_rfl) e rfl hl h
theorem gs445_typecode {x dx : Addr} {svs : List SV} {y : Str} {e : Bool} {Q : Value → Shared → Prop} (R : Rep G σ s) (hm : Holds G σ x (obj 445 dx svs)) (hdx : Holds G σ dx isAny) (hv : svs.getD 12 .no = .st y) (h : ∀ t s', Rep G σ s' → Q (.str y t) s') : wpAny (model G.prog G.w) A (getAttr (.ref x) (Str.ofString "_typecode") e) Q E s := w_slotS 12 R hm hdx hv (by kernel_rfl) h
theorem ss445_type {x dx : Addr} {svs svs' : List SV} {y : Str} {t : Tok} {σ' : Led} {Q : Unit → Shared → Prop} (R : Rep G σ s) (hu : Upd σ x (obj 445 dx svs) (obj 445 dx svs') σ') (hdx : Holds G σ dx isAny) (e : svs.set 11 (.st y) = svs') (hl : 11 < svs.length) (h : ∀ s', Rep G σ' s' → Q () s') : wpAny (model G.prog G.w) A (setAttr (.ref x) (Str.ofString "_type") (.str y t)) Q E s := w_setslot 11 R hu hdx (by kernel_rfl) e ⟨t, rfl⟩ hl h
theorem ss445_typecode {x dx : Addr} {svs svs' : List SV} {y : Str} {t : Tok} {σ' : Led} {Q : Unit → Shared → Prop} (R : Rep G σ s) (hu : Upd σ x (obj 445 dx svs) (obj 445 dx svs') σ') (hdx : Holds G σ dx isAny) (e : svs.set 12 (.st y) = svs') (hl : 12 < svs.length) (h : ∀ s', Rep G σ' s' → Q () s') : wpAny (model G.prog G.w) A (setAttr (.ref x) (Str.ofString "_typecode") (.str y t)) Q E s := w_setslot 12 R hu hdx (by kernel_rfl) e ⟨t, rfl⟩ hl h
theorem m445_load_init {x dx : Addr} {svs : List SV} {pl : Sem Bool} {Q : Value × List Value → Shared → Prop} (R : Rep G σ s) (hm : Holds G σ x (obj 445 dx svs)) (hdx : Holds G σ dx isAny) (h : Q (.ref 378, [.ref x]) s) : wpAny (model G.prog G.w) A (getMethod (.ref x) (Str.ofString "_load_init") pl) Q E s := w_method R hm hdx h
theorem m445_set_values {x dx : Addr} {svs : List SV} {pl : Sem Bool} {Q : Value × List Value → Shared → Prop} (R : Rep G σ s) (hm : Holds G σ x (obj 445 dx svs)) (hdx : Holds G σ dx isAny) (h : Q (.ref 307, [.ref x]) s) : wpAny (model G.prog G.w) A (getMethod (.ref x) (Str.ofString "_set_values") pl) Q E s := w_method R hm hdx h
theorem m445_hashes {x dx : Addr} {svs : List SV} {pl : Sem Bool} {Q : Value × List Value → Shared → Prop} (R : Rep G σ s) (hm : Holds G σ x (obj 445 dx svs)) (hdx : Holds G σ dx isAny) (h : Q (.ref 241, [.ref x]) s) : wpAny (model G.prog G.w) A (getMethod (.ref x) (Str.ofString "hashes") pl) Q E s := w_method R hm hdx h
theorem m445_add_alt {x dx : Addr} {svs : List SV} {pl : Sem Bool} {Q : Value × List Value → Shared → Prop} (R : Rep G σ s) (hm : Holds G σ x (obj 445 dx svs)) (hdx : Holds G σ dx isAny) (h : Q (.ref 392, [.ref x]) s) : wpAny (model G.prog G.w) A (getMethod (.ref x) (Str.ofString "add_alt") pl) Q E s := w_method R hm hdx h
theorem m445_check_alt {x dx : Addr} {svs : List SV} {pl : Sem Bool} {Q : Value × List Value → Shared → Prop} (R : Rep G σ s) (hm : Holds G σ x (obj 445 dx svs)) (hdx : Holds G σ dx isAny) (h : Q (.ref 406, [.ref x]) s) : wpAny (model G.prog G.w) A (getMethod (.ref x) (Str.ofString "check_alt") pl) Q E s := w_method R hm hdx h
theorem m445_remove_alt {x dx : Addr} {svs : List SV} {pl : Sem Bool} {Q : Value × List Value → Shared → Prop} (R : Rep G σ s) (hm : Holds G σ x (obj 445 dx svs)) (hdx : Holds G σ dx isAny) (h : Q (.ref 420, [.ref x]) s) : wpAny (model G.prog G.w) A (getMethod (.ref x) (Str.ofString "remove_alt") pl) Q E s := w_method R hm hdx h
theorem m445_add {x dx : Addr} {svs : List SV} {pl : Sem Bool} {Q : Value × List Value → Shared → Prop} (R : Rep G σ s) (hm : Holds G σ x (obj 445 dx svs)) (hdx : Holds G σ dx isAny) (h : Q (.ref 386, [.ref x]) s) : wpAny (model G.prog G.w) A (getMethod (.ref x) (Str.ofString "add") pl) Q E s := w_method R hm hdx h
theorem m445_check {x dx : Addr} {svs : List SV} {pl : Sem Bool} {Q : Value × List Value → Shared → Prop} (R : Rep G σ s) (hm : Holds G σ x (obj 445 dx svs)) (hdx : Holds G σ dx isAny) (h : Q (.ref 399, [.ref x]) s) : wpAny (model G.prog G.w) A (getMethod (.ref x) (Str.ofString "check") pl) Q E s := w_method R hm hdx h
theorem m445_remove {x dx : Addr} {svs : List SV} {pl : Sem Bool} {Q : Value × List Value → Shared → Prop} (R : Rep G σ s) (hm : Holds G σ x (obj 445 dx svs)) (hdx : Holds G σ dx isAny) (h : Q (.ref 414, [.ref x]) s) : wpAny (model G.prog G.w) A (getMethod (.ref x) (Str.ofString "remove") pl) Q E s := w_method R hm hdx h
theorem m445_clear {x dx : Addr} {svs : List SV} {pl : Sem Bool} {Q : Value × List Value → Shared → Prop} (R : Rep G σ s) (hm : Holds G σ x (obj 445 dx svs)) (hdx : Holds G σ dx isAny) (h : Q (.ref 233, [.ref x]) s) : wpAny (model G.prog G.w) A (getMethod (.ref x) (Str.ofString "clear") pl) Q E s := w_method R hm hdx h
theorem m445_union {x dx : Addr} {svs : List SV} {pl : Sem Bool} {Q : Value × List Value → Shared → Prop} (R : Rep G σ s) (hm : Holds G σ x (obj 445 dx svs)) (hdx : Holds G σ dx isAny) (h : Q (.ref 434, [.ref x]) s) : wpAny (model G.prog G.w) A (getMethod (.ref x) (Str.ofString "union") pl) Q E s := w_method R hm hdx h
theorem m445_intersection {x dx : Addr} {svs : List SV} {pl : Sem Bool} {Q : Value × List Value → Shared → Prop} (R : Rep G σ s) (hm : Holds G σ x (obj 445 dx svs)) (hdx : Holds G σ dx isAny) (h : Q (.ref 427, [.ref x]) s) : wpAny (model G.prog G.w) A (getMethod (.ref x) (Str.ofString "intersection") pl) Q E s := w_method R hm hdx h
theorem m445_estimate_elements {x dx : Addr} {svs : List SV} {pl : Sem Bool} {Q : Value × List Value → Shared → Prop} (R : Rep G σ s) (hm : Holds G σ x (obj 445 dx svs)) (hdx : Holds G σ dx isAny) (h : Q (.ref 276, [.ref x]) s) : wpAny (model G.prog G.w) A (getMethod (.ref x) (Str.ofString "estimate_elements") pl) Q E s := w_method R hm hdx h
theorem m445_cnt_number_bits_set {x dx : Addr} {svs : List SV} {pl : Sem Bool} {Q : Value × List Value → Shared → Prop} (R : Rep G σ s) (hm : Holds G σ x (obj 445 dx svs)) (hdx : Holds G σ dx isAny) (h : Q (.ref 441, [.ref x]) s) : wpAny (model G.prog G.w) A (getMethod (.ref x) (Str.ofString "_cnt_number_bits_set") pl) Q E s := w_method R hm hdx h
theorem m445_verify_bloom_similarity {x dx : Addr} {svs : List SV} {pl : Sem Bool} {Q : Value × List Value → Shared → Prop} (R : Rep G σ s) (hm : Holds G σ x (obj 445 dx svs)) (hdx : Holds G σ dx isAny) (h : Q (.ref 328, [.ref x]) s) : wpAny (model G.prog G.w) A (getMethod (.ref x) (Str.ofString "_verify_bloom_similarity") pl) Q E s := w_method R hm hdx h
theorem sv332_bloom {x dx : Addr} {svs svs' : List SV} {v : Value} {σ' : Led} {Q : Unit → Shared → Prop} (R : Rep G σ s) (hu : Upd σ x (obj 332 dx svs) (obj 332 dx svs') σ') (hdx : Holds G σ dx isAny) (e : svs.set 1 (.va v) = svs') (hl : 1 < svs.length) (h : ∀ s', Rep G σ' s' → Q () s') : wpAny (model G.prog G.w) A (setAttr (.ref x) (Str.ofString "_bloom") v) Q E s := w_setslot 1 R hu hdx (by kernel_rfl) e rfl hl h
theorem gi332_bloom_length {x dx : Addr} {svs : List SV} {n : Int} {e : Bool} {Q : Value → Shared → Prop} (R : Rep G σ s) (hm : Holds G σ x (obj 332 dx svs)) (hdx : Holds G σ dx isAny) (hv : svs.getD 2 .no = .nu n) (h : ∀ t s', Rep G σ s' → Q (.int n t) s') : wpAny (model G.prog G.w) A (getAttr (.ref x) (Str.ofString "_bloom_length") e) Q E s := w_slotI 2 R hm hdx hv (by kernel_rfl) h
theorem si332_bloom_length {x dx : Addr} {svs svs' : List SV} {n : Int} {t : Tok} {σ' : Led} {Q : Unit → Shared → Prop} (R : Rep G σ s) (hu : Upd σ x (obj 332 dx svs) (obj 332 dx svs') σ') (hdx : Holds G σ dx isAny) (e : svs.set 2 (.nu n) = svs') (hl : 2 < svs.length) (h : ∀ s', Rep G σ' s' → Q () s') : wpAny (model G.prog G.w) A (setAttr (.ref x) (Str.ofString "_bloom_length") (.int n t)) Q E s := w_setslot 2 R hu hdx (by kernel_rfl) e ⟨t, rfl⟩ hl h
theorem si332_els_added {x dx : Addr} {svs svs' : List SV} {n : Int} {t : Tok} {σ' : Led} {Q : Unit → Shared → Prop} (R : Rep G σ s) (hu : Upd σ x (obj 332 dx svs) (obj 332 dx svs') σ') (hdx : Holds G σ dx isAny) (e : svs.set 3 (.nu n) = svs') (hl : 3 < svs.length) (h : ∀ s', Rep G σ' s' → Q () s') : wpAny (model G.prog G.w) A (setAttr (.ref x) (Str.ofString "_els_added") (.int n t)) Q E s := w_setslot 3 R hu hdx (by kernel_rfl) e ⟨t, rfl⟩ hl h
theorem si332_est_elements {x dx : Addr} {svs svs' : List SV} {n : Int} {t : Tok} {σ' : Led} {Q : Unit → Shared → Prop} (R : Rep G σ s) (hu : Upd σ x (obj 332 dx svs) (obj 332 dx svs') σ') (hdx : Holds G σ dx isAny) (e : svs.set 4 (.nu n) = svs') (hl : 4 < svs.length) (h : ∀ s', Rep G σ' s' → Q () s') : wpAny (model G.prog G.w) A (setAttr (.ref x) (Str.ofString "_est_elements") (.int n t)) Q E s := w_setslot 4 R hu hdx (by kernel_rfl) e ⟨t, rfl⟩ hl h
theorem si332_fpr {x dx : Addr} {svs svs' : List SV} {n : Int} {t : Tok} {σ' : Led} {Q : Unit → Shared → Prop} (R : Rep G σ s) (hu : Upd σ x (obj 332 dx svs) (obj 332 dx svs') σ') (hdx : Holds G σ dx isAny) (e : svs.set 5 (.nu n) = svs') (hl : 5 < svs.length) (h : ∀ s', Rep G σ' s' → Q () s') : wpAny (model G.prog G.w) A (setAttr (.ref x) (Str.ofString "_fpr") (.int n t)) Q E s := w_setslot 5 R hu hdx (by kernel_rfl) e ⟨t, rfl⟩ hl h
theorem sv332_hash_func {x dx : Addr} {svs svs' : List SV} {v : Value} {σ' : Led} {Q : Unit → Shared → Prop} (R : Rep G σ s) (hu : Upd σ x (obj 332 dx svs) (obj 332 dx svs') σ') (hdx : Holds G σ dx isAny) (e : svs.set 6 (.va v) = svs') (hl : 6 < svs.length) (h : ∀ s', Rep G σ' s' → Q () s') : wpAny (model G.prog G.w) A (setAttr (.ref x) (Str.ofString "_hash_func") v) Q E s := w_setslot 6 R hu hdx (by kernel_rfl) e rfl hl h
theorem si332_num_bits {x dx : Addr} {svs svs' : List SV} {n : Int} {t : Tok} {σ' : Led} {Q : Unit → Shared → Prop} (R : Rep G σ s) (hu : Upd σ x (obj 332 dx svs) (obj 332 dx svs') σ') (hdx : Holds G σ dx isAny) (e : svs.set 7 (.nu n) = svs') (hl : 7 < svs.length) (h : ∀ s', Rep G σ' s' → Q () s') : wpAny (model G.prog G.w) A (setAttr (.ref x) (Str.ofString "_num_bits") (.int n t)) Q E s := w_setslot 7 R hu hdx (by kernel_rfl) e ⟨t, rfl⟩ hl h
theorem si332_number_hashes {x dx : Addr} {svs svs' : List SV} {n : Int} {t : Tok} {σ' : Led} {Q : Unit → Shared → Prop} (R : Rep G σ s) (hu : Upd σ x (obj 332 dx svs) (obj 332 dx svs') σ') (hdx : Holds G σ dx isAny) (e : svs.set 8 (.nu n) = svs') (hl : 8 < svs.length) (h : ∀ s', Rep G σ' s' → Q () s') : wpAny (model G.prog G.w) A (setAttr (.ref x) (Str.ofString "_number_hashes") (.int n t)) Q E s := w_setslot 8 R hu hdx (by kernel_rfl) e ⟨t, rfl⟩ hl h
theorem sv332_on_disk {x dx : Addr} {svs svs' : List SV} {v : Value} {σ' : Led} {Q : Unit → Shared → Prop} (R : Rep G σ s) (hu : Upd σ x (obj 332 dx svs) (obj 332 dx svs') σ') (hdx : Holds G σ dx isAny) (e : svs.set 9 (.va v) = svs') (hl : 9 < svs.length) (h : ∀ s', Rep G σ' s' → Q () s') : wpAny (model G.prog G.w) A (setAttr (.ref x) (Str.ofString "_on_disk") v) Q E s := w_setslot 9 R hu hdx (by kernel_rfl) e rfl hl h
theorem ss332_type {x dx : Addr} {svs svs' : List SV} {y : Str} {t : Tok} {σ' : Led} {Q : Unit → Shared → Prop} (R : Rep G σ s) (hu : Upd σ x (obj 332 dx svs) (obj 332 dx svs') σ') (hdx : Holds G σ dx isAny) (e : svs.set 10 (.st y) = svs') (hl : 10 < svs.length) (h : ∀ s', Rep G σ' s' → Q () s') : wpAny (model G.prog G.w) A (setAttr (.ref x) (Str.ofString "_type") (.str y t)) Q E s := w_setslot 10 R hu hdx (by kernel_rfl) e ⟨t, rfl⟩ hl h
theorem ss332_typecode {x dx : Addr} {svs svs' : List SV} {y : Str} {t : Tok} {σ' : Led} {Q : Unit → Shared → Prop} (R : Rep G σ s) (hu : Upd σ x (obj 332 dx svs) (obj 332 dx svs') σ') (hdx : Holds G σ dx isAny) (e : svs.set 11 (.st y) = svs') (hl : 11 < svs.length) (h : ∀ s', Rep G σ' s' → Q () s') : wpAny (model G.prog G.w) A (setAttr (.ref x) (Str.ofString "_typecode") (.str y t)) Q E s := w_setslot 11 R hu hdx (by kernel_rfl) e ⟨t, rfl⟩ hl h
theorem m332_load_init {x dx : Addr} {svs : List SV} {pl : Sem Bool} {Q : Value × List Value → Shared → Prop} (R : Rep G σ s) (hm : Holds G σ x (obj 332 dx svs)) (hdx : Holds G σ dx isAny) (h : Q (.ref 138, [.ref x]) s) : wpAny (model G.prog G.w) A (getMethod (.ref x) (Str.ofString "_load_init") pl) Q E s := w_method R hm hdx h
theorem m332_set_values {x dx : Addr} {svs : List SV} {pl : Sem Bool} {Q : Value × List Value → Shared → Prop} (R : Rep G σ s) (hm : Holds G σ x (obj 332 dx svs)) (hdx : Holds G σ dx isAny) (h : Q (.ref 307, [.ref x]) s) : wpAny (model G.prog G.w) A (getMethod (.ref x) (Str.ofString "_set_values") pl) Q E s := w_method R hm hdx h
theorem bn_range {env : Env} {L : Addr} {sc : Scope} {cl : List (Str × Addr)} {cd : Value} {pos : Pos} {Q : Value → Shared → Prop} (R : Rep G σ s) (he : EnvIs env sc L cl cd) (h : Q (.type "range") s) (hl : sc.names.lookup (Str.ofString "range") = some .globalImplicit := by kernel_rfl) : wpAny (model G.prog G.w) A (eval (.Name (Str.ofString "range") pos) env) Q E s := w_builtin (v := .type "range") R he (by kernel_rfl) h (by kernel_rfl) hl
theorem bn_min {env : Env} {L : Addr} {sc : Scope} {cl : List (Str × Addr)} {cd : Value} {pos : Pos} {Q : Value → Shared → Prop} (R : Rep G σ s) (he : EnvIs env sc L cl cd) (h : Q (.builtin "min") s) (hl : sc.names.lookup (Str.ofString "min") = some .globalImplicit := by kernel_rfl) : wpAny (model G.prog G.w) A (eval (.Name (Str.ofString "min") pos) env) Q E s := w_builtin (v := .builtin "min") R he (by kernel_rfl) h (by kernel_rfl) hl
theorem bn_max {env : Env} {L : Addr} {sc : Scope} {cl : List (Str × Addr)} {cd : Value} {pos : Pos} {Q : Value → Shared → Prop} (R : Rep G σ s) (he : EnvIs env sc L cl cd) (h : Q (.builtin "max") s) (hl : sc.names.lookup (Str.ofString "max") = some .globalImplicit := by kernel_rfl) : wpAny (model G.prog G.w) A (eval (.Name (Str.ofString "max") pos) env) Q E s := w_builtin (v := .builtin "max") R he (by kernel_rfl) h (by kernel_rfl) hl
theorem bn_sum {env : Env} {L : Addr} {sc : Scope} {cl : List (Str × Addr)} {cd : Value} {pos : Pos} {Q : Value → Shared → Prop} (R : Rep G σ s) (he : EnvIs env sc L cl cd) (h : Q (.builtin "sum") s) (hl : sc.names.lookup (Str.ofString "sum") = some .globalImplicit := by kernel_rfl) : wpAny (model G.prog G.w) A (eval (.Name (Str.ofString "sum") pos) env) Q E s := w_builtin (v := .builtin "sum") R he (by kernel_rfl) h (by kernel_rfl) hl
theorem bn_enumerate {env : Env} {L : Addr} {sc : Scope} {cl : List (Str × Addr)} {cd : Value} {pos : Pos} {Q : Value → Shared → Prop} (R : Rep G σ s) (he : EnvIs env sc L cl cd) (h : Q (.type "enumerate") s) (hl : sc.names.lookup (Str.ofString "enumerate") = some .globalImplicit := by kernel_rfl) : wpAny (model G.prog G.w) A (eval (.Name (Str.ofString "enumerate") pos) env) Q E s := w_builtin (v := .type "enumerate") R he (by kernel_rfl) h (by kernel_rfl) hl
theorem bn_isinstance {env : Env} {L : Addr} {sc : Scope} {cl : List (Str × Addr)} {cd : Value} {pos : Pos} {Q : Value → Shared → Prop} (R : Rep G σ s) (he : EnvIs env sc L cl cd) (h : Q (.builtin "isinstance") s) (hl : sc.names.lookup (Str.ofString "isinstance") = some .globalImplicit := by kernel_rfl) : wpAny (model G.prog G.w) A (eval (.Name (Str.ofString "isinstance") pos) env) Q E s := w_builtin (v := .builtin "isinstance") R he (by kernel_rfl) h (by kernel_rfl) hl
theorem bn_ord {env : Env} {L : Addr} {sc : Scope} {cl : List (Str × Addr)} {cd : Value} {pos : Pos} {Q : Value → Shared → Prop} (R : Rep G σ s) (he : EnvIs env sc L cl cd) (h : Q (.builtin "ord") s) (hl : sc.names.lookup (Str.ofString "ord") = some .globalImplicit := by kernel_rfl) : wpAny (model G.prog G.w) A (eval (.Name (Str.ofString "ord") pos) env) Q E s := w_builtin (v := .builtin "ord") R he (by kernel_rfl) h (by kernel_rfl) hl
theorem bn_int {env : Env} {L : Addr} {sc : Scope} {cl : List (Str × Addr)} {cd : Value} {pos : Pos} {Q : Value → Shared → Prop} (R : Rep G σ s) (he : EnvIs env sc L cl cd) (h : Q (.type "int") s) (hl : sc.names.lookup (Str.ofString "int") = some .globalImplicit := by kernel_rfl) : wpAny (model G.prog G.w) A (eval (.Name (Str.ofString "int") pos) env) Q E s := w_builtin (v := .type "int") R he (by kernel_rfl) h (by kernel_rfl) hl
theorem bn_float {env : Env} {L : Addr} {sc : Scope} {cl : List (Str × Addr)} {cd : Value} {pos : Pos} {Q : Value → Shared → Prop} (R : Rep G σ s) (he : EnvIs env sc L cl cd) (h : Q (.type "float") s) (hl : sc.names.lookup (Str.ofString "float") = some .globalImplicit := by kernel_rfl) : wpAny (model G.prog G.w) A (eval (.Name (Str.ofString "float") pos) env) Q E s := w_builtin (v := .type "float") R he (by kernel_rfl) h (by kernel_rfl) hl
theorem bn_complex {env : Env} {L : Addr} {sc : Scope} {cl : List (Str × Addr)} {cd : Value} {pos : Pos} {Q : Value → Shared → Prop} (R : Rep G σ s) (he : EnvIs env sc L cl cd) (h : Q (.type "complex") s) (hl : sc.names.lookup (Str.ofString "complex") = some .globalImplicit := by kernel_rfl) : wpAny (model G.prog G.w) A (eval (.Name (Str.ofString "complex") pos) env) Q E s := w_builtin (v := .type "complex") R he (by kernel_rfl) h (by kernel_rfl) hl
theorem bn_TypeError {env : Env} {L : Addr} {sc : Scope} {cl : List (Str × Addr)} {cd : Value} {pos : Pos} {Q : Value → Shared → Prop} (R : Rep G σ s) (he : EnvIs env sc L cl cd) (h : Q (.type "TypeError") s) (hl : sc.names.lookup (Str.ofString "TypeError") = some .globalImplicit := by kernel_rfl) : wpAny (model G.prog G.w) A (eval (.Name (Str.ofString "TypeError") pos) env) Q E s := w_builtin (v := .type "TypeError") R he (by kernel_rfl) h (by kernel_rfl) hl
theorem bn_OverflowError {env : Env} {L : Addr} {sc : Scope} {cl : List (Str × Addr)} {cd : Value} {pos : Pos} {Q : Value → Shared → Prop} (R : Rep G σ s) (he : EnvIs env sc L cl cd) (h : Q (.type "OverflowError") s) (hl : sc.names.lookup (Str.ofString "OverflowError") = some .globalImplicit := by kernel_rfl) : wpAny (model G.prog G.w) A (eval (.Name (Str.ofString "OverflowError") pos) env) Q E s := w_builtin (v := .type "OverflowError") R he (by kernel_rfl) h (by kernel_rfl) hl
end
end Bl

namespace Bl
section
variable {G : Gd hd.heap_39} {A : Around} {E : Value → Shared → Prop} {σ τ : Led} {s : Shared}
theorem gl_SimilarityError {env : Env} {L : Addr} {sc : Scope} {cl : List (Str × Addr)} {cd : Value} {pos : Pos} {Q : Value → Shared → Prop} (R : Rep G σ s) (he : EnvIs env sc L cl cd) (h : Q (.ref 90) s) (hl : sc.names.lookup (Str.ofString "SimilarityError") = some .globalImplicit := by kernel_rfl) : wpAny (model G.prog G.w) A (eval (.Name (Str.ofString "SimilarityError") pos) env) Q E s := w_global (v := .ref 90) R he (by kernel_rfl) h hl
theorem gl_UINT32_T_MAX {env : Env} {L : Addr} {sc : Scope} {cl : List (Str × Addr)} {cd : Value} {pos : Pos} {Q : Value → Shared → Prop} (R : Rep G σ s) (he : EnvIs env sc L cl cd) (h : Q (.int 4294967295 288) s) (hl : sc.names.lookup (Str.ofString "UINT32_T_MAX") = some .globalImplicit := by kernel_rfl) : wpAny (model G.prog G.w) A (eval (.Name (Str.ofString "UINT32_T_MAX") pos) env) Q E s := w_global (v := .int 4294967295 288) R he (by kernel_rfl) h hl
theorem gl_UINT64_T_MAX {env : Env} {L : Addr} {sc : Scope} {cl : List (Str × Addr)} {cd : Value} {pos : Pos} {Q : Value → Shared → Prop} (R : Rep G σ s) (he : EnvIs env sc L cl cd) (h : Q (.int 18446744073709551615 290) s) (hl : sc.names.lookup (Str.ofString "UINT64_T_MAX") = some .globalImplicit := by kernel_rfl) : wpAny (model G.prog G.w) A (eval (.Name (Str.ofString "UINT64_T_MAX") pos) env) Q E s := w_global (v := .int 18446744073709551615 290) R he (by kernel_rfl) h hl
theorem gl_default_fnv_1a {env : Env} {L : Addr} {sc : Scope} {cl : List (Str × Addr)} {cd : Value} {pos : Pos} {Q : Value → Shared → Prop} (R : Rep G σ s) (he : EnvIs env sc L cl cd) (h : Q (.ref 100) s) (hl : sc.names.lookup (Str.ofString "default_fnv_1a") = some .globalImplicit := by kernel_rfl) : wpAny (model G.prog G.w) A (eval (.Name (Str.ofString "default_fnv_1a") pos) env) Q E s := w_global (v := .ref 100) R he (by kernel_rfl) h hl
theorem gl_BloomFilter {env : Env} {L : Addr} {sc : Scope} {cl : List (Str × Addr)} {cd : Value} {pos : Pos} {Q : Value → Shared → Prop} (R : Rep G σ s) (he : EnvIs env sc L cl cd) (h : Q (.ref 332) s) (hl : sc.names.lookup (Str.ofString "BloomFilter") = some .globalImplicit := by kernel_rfl) : wpAny (model G.prog G.w) A (eval (.Name (Str.ofString "BloomFilter") pos) env) Q E s := w_global (v := .ref 332) R he (by kernel_rfl) h hl
theorem gl_CountingBloomFilter {env : Env} {L : Addr} {sc : Scope} {cl : List (Str × Addr)} {cd : Value} {pos : Pos} {Q : Value → Shared → Prop} (R : Rep G σ s) (he : EnvIs env sc L cl cd) (h : Q (.ref 445) s) (hl : sc.names.lookup (Str.ofString "CountingBloomFilter") = some .globalImplicit := by kernel_rfl) : wpAny (model G.prog G.w) A (eval (.Name (Str.ofString "CountingBloomFilter") pos) env) Q E s := w_global (v := .ref 445) R he (by kernel_rfl) h hl
theorem gl_verify_not_type_mismatch_countingbloom {env : Env} {L : Addr} {sc : Scope} {cl : List (Str × Addr)} {cd : Value} {pos : Pos} {Q : Value → Shared → Prop} (R : Rep G σ s) (he : EnvIs env sc L cl cd) (h : Q (.ref 353) s) (hl : sc.names.lookup (Str.ofString "verify_not_type_mismatch_countingbloom") = some .globalImplicit := by kernel_rfl) : wpAny (model G.prog G.w) A (eval (.Name (Str.ofString "verify_not_type_mismatch_countingbloom") pos) env) Q E s := w_global (v := .ref 353) R he (by kernel_rfl) h hl
theorem gl_law_amounts {env : Env} {L : Addr} {sc : Scope} {cl : List (Str × Addr)} {cd : Value} {pos : Pos} {Q : Value → Shared → Prop} (R : Rep G σ s) (he : EnvIs env sc L cl cd) (h : Q (.ref 455) s) (hl : sc.names.lookup (Str.ofString "_law_amounts") = some .globalImplicit := by kernel_rfl) : wpAny (model G.prog G.w) A (eval (.Name (Str.ofString "_law_amounts") pos) env) Q E s := w_global (v := .ref 455) R he (by kernel_rfl) h hl
theorem gl_law_rounds {env : Env} {L : Addr} {sc : Scope} {cl : List (Str × Addr)} {cd : Value} {pos : Pos} {Q : Value → Shared → Prop} (R : Rep G σ s) (he : EnvIs env sc L cl cd) (h : Q (.ref 462) s) (hl : sc.names.lookup (Str.ofString "_law_rounds") = some .globalImplicit := by kernel_rfl) : wpAny (model G.prog G.w) A (eval (.Name (Str.ofString "_law_rounds") pos) env) Q E s := w_global (v := .ref 462) R he (by kernel_rfl) h hl
theorem gl_law_places {env : Env} {L : Addr} {sc : Scope} {cl : List (Str × Addr)} {cd : Value} {pos : Pos} {Q : Value → Shared → Prop} (R : Rep G σ s) (he : EnvIs env sc L cl cd) (h : Q (.ref 467) s) (hl : sc.names.lookup (Str.ofString "_law_places") = some .globalImplicit := by kernel_rfl) : wpAny (model G.prog G.w) A (eval (.Name (Str.ofString "_law_places") pos) env) Q E s := w_global (v := .ref 467) R he (by kernel_rfl) h hl
theorem gl_law_hash {env : Env} {L : Addr} {sc : Scope} {cl : List (Str × Addr)} {cd : Value} {pos : Pos} {Q : Value → Shared → Prop} (R : Rep G σ s) (he : EnvIs env sc L cl cd) (h : Q (.ref 474) s) (hl : sc.names.lookup (Str.ofString "_law_hash") = some .globalImplicit := by kernel_rfl) : wpAny (model G.prog G.w) A (eval (.Name (Str.ofString "_law_hash") pos) env) Q E s := w_global (v := .ref 474) R he (by kernel_rfl) h hl
theorem gl_law_try {env : Env} {L : Addr} {sc : Scope} {cl : List (Str × Addr)} {cd : Value} {pos : Pos} {Q : Value → Shared → Prop} (R : Rep G σ s) (he : EnvIs env sc L cl cd) (h : Q (.ref 481) s) (hl : sc.names.lookup (Str.ofString "_law_try") = some .globalImplicit := by kernel_rfl) : wpAny (model G.prog G.w) A (eval (.Name (Str.ofString "_law_try") pos) env) Q E s := w_global (v := .ref 481) R he (by kernel_rfl) h hl
theorem gl_law_joined {env : Env} {L : Addr} {sc : Scope} {cl : List (Str × Addr)} {cd : Value} {pos : Pos} {Q : Value → Shared → Prop} (R : Rep G σ s) (he : EnvIs env sc L cl cd) (h : Q (.ref 488) s) (hl : sc.names.lookup (Str.ofString "_law_joined") = some .globalImplicit := by kernel_rfl) : wpAny (model G.prog G.w) A (eval (.Name (Str.ofString "_law_joined") pos) env) Q E s := w_global (v := .ref 488) R he (by kernel_rfl) h hl
end
end Bl

end
section
open PySem PySem.W PyProof.Rows PySem.Calls PyProof Bl
set_option linter.unusedVariables false
set_option maxHeartbeats 8000000

local macro_rules | `(tactic| walk_at "b_mem") => `(tactic| (first | assumption | ((repeat (first | exact Bl.Holds.head | assumption | apply Bl.Holds.tail)); all_goals fail) | fail))
local macro_rules | `(tactic| walk_at "b_in") => `(tactic| (first | ((repeat (first | exact List.mem_cons_self | apply List.mem_cons_of_mem)); all_goals fail) | fail))
local macro_rules | `(tactic| walk_at "b_upd") => `(tactic| (first | assumption | ((repeat (first | exact Bl.Upd.head | apply Bl.Upd.tail)); all_goals fail) | fail))
local macro_rules | `(tactic| walk_at "b_put") => `(tactic| (first | ((repeat (first | exact Bl.Put.head | apply Bl.Put.tail)); all_goals fail) | fail))
local macro_rules | `(tactic| walk_at "b_take") => `(tactic| (first | ((repeat (first | exact Bl.Take.head | apply Bl.Take.tail)); all_goals fail) | fail))
local macro_rules | `(tactic| walk_at "b_sel") => `(tactic| repeat (first | exact Bl.Sel.refl | (apply Bl.Sel.pick; focus ((repeat (first | exact Bl.Take.head | apply Bl.Take.tail)); all_goals fail)) | apply Bl.Sel.drop))
local macro_rules | `(tactic| walk_at "b_x1") => `(tactic| (with_reducible show wpAny _ _ (execs [] _) _ _ _; first
    | with_reducible refine wpAny_execs_nil ?_))
local macro_rules | `(tactic| walk_at "b_x1") => `(tactic| (with_reducible show wpAny _ _ (execs (_ :: _) _) _ _ _; first
    | with_reducible refine wpAny_execs_cons ?_))
local macro_rules | `(tactic| walk_at "b_x2") => `(tactic| (with_reducible show wpAny _ _ (exec (.AugAssign (.Subscript _ _ _) _ _ _) _) _ _ _; first
    | with_reducible refine x_AugSub ?_))
local macro_rules | `(tactic| walk_at "b_x2") => `(tactic| (with_reducible show wpAny _ _ (exec (.AugAssign (.Attribute _ _ _) _ _ _) _) _ _ _; first
    | with_reducible refine wpAny_AugAssign_AttributeAny ?_))
local macro_rules | `(tactic| walk_at "b_x2") => `(tactic| (with_reducible show wpAny _ _ (exec (.AugAssign (.Name _ _) _ _ _) _) _ _ _; first
    | with_reducible refine wpAny_AugAssign_Name ?_))
local macro_rules | `(tactic| walk_at "b_x2") => `(tactic| (with_reducible show wpAny _ _ (exec (.While _ _ _ _) _) _ _ _; first
    | with_reducible refine wpAny_While ?_))
local macro_rules | `(tactic| walk_at "b_x2") => `(tactic| (with_reducible show wpAny _ _ (exec (.For _ _ _ _ _) _) _ _ _; first
    | with_reducible refine x_For ?_))
local macro_rules | `(tactic| walk_at "b_x2") => `(tactic| (with_reducible show wpAny _ _ (exec (.Expr _ _) _) _ _ _; first
    | with_reducible refine x_ExprE (by assumption) ?_
    | with_reducible refine x_Expr ?_))
local macro_rules | `(tactic| walk_at "b_x2") => `(tactic| (with_reducible show wpAny _ _ (exec (.If _ _ _ _) _) _ _ _; first
    | with_reducible refine wpAny_If ?_))
local macro_rules | `(tactic| walk_at "b_x2") => `(tactic| (with_reducible show wpAny _ _ (exec (.Return (some _) _) _) _ _ _; first
    | with_reducible refine wpAny_Return_some ?_))
local macro_rules | `(tactic| walk_at "b_x2") => `(tactic| (with_reducible show wpAny _ _ (exec (.Assign [.Subscript _ _ _] _ _) _) _ _ _; first
    | with_reducible refine x_AssignSub ?_))
local macro_rules | `(tactic| walk_at "b_x2") => `(tactic| (with_reducible show wpAny _ _ (exec (.Assign [.Attribute _ _ _] _ _) _) _ _ _; first
    | with_reducible refine x_AssignAttr ?_))
local macro_rules | `(tactic| walk_at "b_x2") => `(tactic| (with_reducible show wpAny _ _ (exec (.Assign [.Name _ _] _ _) _) _ _ _; first
    | with_reducible refine x_AssignName ?_))
local macro_rules | `(tactic| walk_at "b_x3") => `(tactic| (with_reducible show wpAny _ _ (PySem.isTrue (.Call _ _ _ _) _ _) _ _ _; first
    | with_reducible refine x_TPlain ?_))
local macro_rules | `(tactic| walk_at "b_x3") => `(tactic| (with_reducible show wpAny _ _ (PySem.isTrue (.Name _ _) _ _) _ _ _; first
    | with_reducible refine x_TPlain ?_))
local macro_rules | `(tactic| walk_at "b_x3") => `(tactic| (with_reducible show wpAny _ _ (PySem.isTrue (.IfExp _ _ _ _) _ _) _ _ _; first
    | with_reducible refine isTrue_IfExp ?_))
local macro_rules | `(tactic| walk_at "b_x3") => `(tactic| (with_reducible show wpAny _ _ (PySem.isTrue (.Compare _ [_, _] _ _) _ _) _ _ _; first
    | with_reducible refine x_chain2 ?_))
local macro_rules | `(tactic| walk_at "b_x3") => `(tactic| (with_reducible show wpAny _ _ (PySem.isTrue (.Compare _ [_] _ _) _ _) _ _ _; first
    | with_reducible refine x_TCmp ?_))
local macro_rules | `(tactic| walk_at "b_x3") => `(tactic| (with_reducible show wpAny _ _ (PySem.isTrue (.BoolOp .Or [] _) _ _) _ _ _; first
    | with_reducible refine isTrue_or_nil ?_))
local macro_rules | `(tactic| walk_at "b_x3") => `(tactic| (with_reducible show wpAny _ _ (PySem.isTrue (.BoolOp .And [] _) _ _) _ _ _; first
    | with_reducible refine isTrue_and_nil ?_))
local macro_rules | `(tactic| walk_at "b_x3") => `(tactic| (with_reducible show wpAny _ _ (PySem.isTrue (.BoolOp .Or (_ :: _) _) _ _) _ _ _; first
    | with_reducible refine isTrue_or ?_))
local macro_rules | `(tactic| walk_at "b_x3") => `(tactic| (with_reducible show wpAny _ _ (PySem.isTrue (.BoolOp .And (_ :: _) _) _ _) _ _ _; first
    | with_reducible refine isTrue_and ?_))
local macro_rules | `(tactic| walk_at "b_x3") => `(tactic| (with_reducible show wpAny _ _ (PySem.isTrue (.UnaryOp .Not _ _) _ _) _ _ _; first
    | with_reducible refine isTrue_not ?_))
local macro_rules | `(tactic| walk_at "b_x9") => `(tactic| (with_reducible show wpAny _ _ (eval (.Name _ _) _) _ _ _; first
    | with_reducible refine w_local (by assumption) (by assumption) (by first | assumption | ((repeat (first | exact Bl.Holds.head | assumption | apply Bl.Holds.tail)); all_goals fail) | fail) (by first | ((repeat (first | exact List.mem_cons_self | apply List.mem_cons_of_mem)); all_goals fail) | fail) ?_
    | with_reducible refine w_cellname (by assumption) (by assumption) (by first | ((repeat (first | exact List.mem_cons_self | apply List.mem_cons_of_mem)); all_goals fail) | fail) (by first | assumption | ((repeat (first | exact Bl.Holds.head | assumption | apply Bl.Holds.tail)); all_goals fail) | fail) ?_ (by decide +kernel)
    | with_reducible refine w_freename (by assumption) (by assumption) (by first | ((repeat (first | exact List.mem_cons_self | apply List.mem_cons_of_mem)); all_goals fail) | fail) (by first | assumption | ((repeat (first | exact Bl.Holds.head | assumption | apply Bl.Holds.tail)); all_goals fail) | fail) ?_ (by decide +kernel)
    | with_reducible refine w_global (by assumption) (by assumption) (by with_unfolding_all rfl) ?_))
local macro_rules | `(tactic| walk_at "b_x9") => `(tactic| (with_reducible show wpAny _ _ (eval (.Name (Str.ofString "OverflowError") _) _) _ _ _; first
    | with_reducible refine bn_OverflowError (by assumption) (by assumption) ?_))
local macro_rules | `(tactic| walk_at "b_x9") => `(tactic| (with_reducible show wpAny _ _ (eval (.Name (Str.ofString "TypeError") _) _) _ _ _; first
    | with_reducible refine bn_TypeError (by assumption) (by assumption) ?_))
local macro_rules | `(tactic| walk_at "b_x9") => `(tactic| (with_reducible show wpAny _ _ (eval (.Name (Str.ofString "complex") _) _) _ _ _; first
    | with_reducible refine bn_complex (by assumption) (by assumption) ?_))
local macro_rules | `(tactic| walk_at "b_x9") => `(tactic| (with_reducible show wpAny _ _ (eval (.Name (Str.ofString "float") _) _) _ _ _; first
    | with_reducible refine bn_float (by assumption) (by assumption) ?_))
local macro_rules | `(tactic| walk_at "b_x9") => `(tactic| (with_reducible show wpAny _ _ (eval (.Name (Str.ofString "int") _) _) _ _ _; first
    | with_reducible refine bn_int (by assumption) (by assumption) ?_))
local macro_rules | `(tactic| walk_at "b_x9") => `(tactic| (with_reducible show wpAny _ _ (eval (.Name (Str.ofString "ord") _) _) _ _ _; first
    | with_reducible refine bn_ord (by assumption) (by assumption) ?_))
local macro_rules | `(tactic| walk_at "b_x9") => `(tactic| (with_reducible show wpAny _ _ (eval (.Name (Str.ofString "isinstance") _) _) _ _ _; first
    | with_reducible refine bn_isinstance (by assumption) (by assumption) ?_))
local macro_rules | `(tactic| walk_at "b_x9") => `(tactic| (with_reducible show wpAny _ _ (eval (.Name (Str.ofString "enumerate") _) _) _ _ _; first
    | with_reducible refine bn_enumerate (by assumption) (by assumption) ?_))
local macro_rules | `(tactic| walk_at "b_x9") => `(tactic| (with_reducible show wpAny _ _ (eval (.Name (Str.ofString "sum") _) _) _ _ _; first
    | with_reducible refine bn_sum (by assumption) (by assumption) ?_))
local macro_rules | `(tactic| walk_at "b_x9") => `(tactic| (with_reducible show wpAny _ _ (eval (.Name (Str.ofString "max") _) _) _ _ _; first
    | with_reducible refine bn_max (by assumption) (by assumption) ?_))
local macro_rules | `(tactic| walk_at "b_x9") => `(tactic| (with_reducible show wpAny _ _ (eval (.Name (Str.ofString "min") _) _) _ _ _; first
    | with_reducible refine bn_min (by assumption) (by assumption) ?_))
local macro_rules | `(tactic| walk_at "b_x9") => `(tactic| (with_reducible show wpAny _ _ (eval (.Name (Str.ofString "range") _) _) _ _ _; first
    | with_reducible refine bn_range (by assumption) (by assumption) ?_))
local macro_rules | `(tactic| walk_at "b_x9") => `(tactic| (with_reducible show wpAny _ _ (eval (.Name (Str.ofString "_law_joined") _) _) _ _ _; first
    | with_reducible refine gl_law_joined (by assumption) (by assumption) ?_))
local macro_rules | `(tactic| walk_at "b_x9") => `(tactic| (with_reducible show wpAny _ _ (eval (.Name (Str.ofString "_law_try") _) _) _ _ _; first
    | with_reducible refine gl_law_try (by assumption) (by assumption) ?_))
local macro_rules | `(tactic| walk_at "b_x9") => `(tactic| (with_reducible show wpAny _ _ (eval (.Name (Str.ofString "_law_hash") _) _) _ _ _; first
    | with_reducible refine gl_law_hash (by assumption) (by assumption) ?_))
local macro_rules | `(tactic| walk_at "b_x9") => `(tactic| (with_reducible show wpAny _ _ (eval (.Name (Str.ofString "_law_places") _) _) _ _ _; first
    | with_reducible refine gl_law_places (by assumption) (by assumption) ?_))
local macro_rules | `(tactic| walk_at "b_x9") => `(tactic| (with_reducible show wpAny _ _ (eval (.Name (Str.ofString "_law_rounds") _) _) _ _ _; first
    | with_reducible refine gl_law_rounds (by assumption) (by assumption) ?_))
local macro_rules | `(tactic| walk_at "b_x9") => `(tactic| (with_reducible show wpAny _ _ (eval (.Name (Str.ofString "_law_amounts") _) _) _ _ _; first
    | with_reducible refine gl_law_amounts (by assumption) (by assumption) ?_))
local macro_rules | `(tactic| walk_at "b_x9") => `(tactic| (with_reducible show wpAny _ _ (eval (.Name (Str.ofString "verify_not_type_mismatch_countingbloom") _) _) _ _ _; first
    | with_reducible refine gl_verify_not_type_mismatch_countingbloom (by assumption) (by assumption) ?_))
local macro_rules | `(tactic| walk_at "b_x9") => `(tactic| (with_reducible show wpAny _ _ (eval (.Name (Str.ofString "CountingBloomFilter") _) _) _ _ _; first
    | with_reducible refine gl_CountingBloomFilter (by assumption) (by assumption) ?_))
local macro_rules | `(tactic| walk_at "b_x9") => `(tactic| (with_reducible show wpAny _ _ (eval (.Name (Str.ofString "BloomFilter") _) _) _ _ _; first
    | with_reducible refine gl_BloomFilter (by assumption) (by assumption) ?_))
local macro_rules | `(tactic| walk_at "b_x9") => `(tactic| (with_reducible show wpAny _ _ (eval (.Name (Str.ofString "default_fnv_1a") _) _) _ _ _; first
    | with_reducible refine gl_default_fnv_1a (by assumption) (by assumption) ?_))
local macro_rules | `(tactic| walk_at "b_x9") => `(tactic| (with_reducible show wpAny _ _ (eval (.Name (Str.ofString "UINT64_T_MAX") _) _) _ _ _; first
    | with_reducible refine gl_UINT64_T_MAX (by assumption) (by assumption) ?_))
local macro_rules | `(tactic| walk_at "b_x9") => `(tactic| (with_reducible show wpAny _ _ (eval (.Name (Str.ofString "UINT32_T_MAX") _) _) _ _ _; first
    | with_reducible refine gl_UINT32_T_MAX (by assumption) (by assumption) ?_))
local macro_rules | `(tactic| walk_at "b_x9") => `(tactic| (with_reducible show wpAny _ _ (eval (.Name (Str.ofString "SimilarityError") _) _) _ _ _; first
    | with_reducible refine gl_SimilarityError (by assumption) (by assumption) ?_))
local macro_rules | `(tactic| walk_at "b_x4") => `(tactic| (with_reducible show wpAny _ _ (eval (.Dict [some _, some _] [_, _] _) _) _ _ _; first
    | with_reducible refine w_dict2 (by assumption) (fun _ _ _ _ _ => ?_)))
local macro_rules | `(tactic| walk_at "b_x4") => `(tactic| (with_reducible show wpAny _ _ (eval (.BoolOp .Or (_ :: _ :: _) _) _) _ _ _; first
    | with_reducible refine BoolOp_or ?_))
local macro_rules | `(tactic| walk_at "b_x4") => `(tactic| (with_reducible show wpAny _ _ (eval (.BoolOp .And (_ :: _ :: _) _) _) _ _ _; first
    | with_reducible refine BoolOp_and ?_))
local macro_rules | `(tactic| walk_at "b_x4") => `(tactic| (with_reducible show wpAny _ _ (eval (.BoolOp _ [_] _) _) _ _ _; first
    | with_reducible refine BoolOp_one ?_))
local macro_rules | `(tactic| walk_at "b_x4") => `(tactic| (with_reducible show wpAny _ _ (eval (.Call (.Name _ _) _ _ _) _) _ _ _; first
    | with_reducible refine w_Call ?_))
local macro_rules | `(tactic| walk_at "b_x4") => `(tactic| (with_reducible show wpAny _ _ (eval (.Call (.Attribute _ _ _) _ _ _) _) _ _ _; first
    | with_reducible refine w_callMethod ?_))
local macro_rules | `(tactic| walk_at "b_x4") => `(tactic| (with_reducible show wpAny _ _ (eval (.UnaryOp _ _ _) _) _ _ _; first
    | with_reducible refine wpAny_UnaryOp ?_))
local macro_rules | `(tactic| walk_at "b_x4") => `(tactic| (with_reducible show wpAny _ _ (eval (.Compare _ [_] _ _) _) _ _ _; first
    | with_reducible refine x_Cmp ?_))
local macro_rules | `(tactic| walk_at "b_x4") => `(tactic| (with_reducible show wpAny _ _ (eval (.IfExp _ _ _ _) _) _ _ _; first
    | with_reducible refine wpAny_IfExp ?_))
local macro_rules | `(tactic| walk_at "b_x4") => `(tactic| (with_reducible show wpAny _ _ (eval (.Subscript _ _ _) _) _ _ _; first
    | with_reducible refine Subscript_ ?_))
local macro_rules | `(tactic| walk_at "b_x4") => `(tactic| (with_reducible show wpAny _ _ (eval (.Attribute _ _ _) _) _ _ _; first
    | with_reducible refine x_Attr ?_))
local macro_rules | `(tactic| walk_at "b_x4") => `(tactic| (with_reducible show wpAny _ _ (eval (.BinOp _ _ _ _) _) _ _ _; first
    | with_reducible refine wpAny_BinOp ?_))
local macro_rules | `(tactic| walk_at "b_x4") => `(tactic| (with_reducible show wpAny _ _ (eval (.Constant (.bool _) _ _) _) _ _ _; first
    | with_reducible refine wpAny_Constant_bool ?_))
local macro_rules | `(tactic| walk_at "b_x4") => `(tactic| (with_reducible show wpAny _ _ (eval (.Constant .none _ _) _) _ _ _; first
    | with_reducible refine wpAny_Constant_none ?_))
local macro_rules | `(tactic| walk_at "b_x4") => `(tactic| (with_reducible show wpAny _ _ (eval (.Constant (.str _) _ _) _) _ _ _; first
    | with_reducible refine w_str (by assumption) (fun _ _ _ => ?_)))
local macro_rules | `(tactic| walk_at "b_x4") => `(tactic| (with_reducible show wpAny _ _ (eval (.Constant (.int _) _ _) _) _ _ _; first
    | with_reducible refine w_int (by assumption) (fun _ _ _ => ?_)))
local macro_rules | `(tactic| walk_at "b_x8") => `(tactic| (with_reducible show wpAny _ _ (compareOp .Is (.bool _) (.bool _)) _ _ _; first
    | with_reducible refine is_bool ?_))
local macro_rules | `(tactic| walk_at "b_x8") => `(tactic| (with_reducible show wpAny _ _ (compareOp .IsNot _ .none) _ _ _; first
    | with_reducible refine isnot_none_gen ?_))
local macro_rules | `(tactic| walk_at "b_x8") => `(tactic| (with_reducible show wpAny _ _ (compareOp .Is _ .none) _ _ _; first
    | with_reducible refine is_none_gen ?_))
local macro_rules | `(tactic| walk_at "b_x8") => `(tactic| (with_reducible show wpAny _ _ (compareOp .NotEq (.int _ _) (.int _ _)) _ _ _; first
    | with_reducible refine ne_int ?_))
local macro_rules | `(tactic| walk_at "b_x8") => `(tactic| (with_reducible show wpAny _ _ (compareOp .Eq (.int _ _) (.int _ _)) _ _ _; first
    | with_reducible refine eq_int ?_))
local macro_rules | `(tactic| walk_at "b_x8") => `(tactic| (with_reducible show wpAny _ _ (compareOp .GtE (.int _ _) (.int _ _)) _ _ _; first
    | with_reducible refine ge_int ?_))
local macro_rules | `(tactic| walk_at "b_x8") => `(tactic| (with_reducible show wpAny _ _ (compareOp .LtE (.int _ _) (.int _ _)) _ _ _; first
    | with_reducible refine le_int ?_))
local macro_rules | `(tactic| walk_at "b_x8") => `(tactic| (with_reducible show wpAny _ _ (compareOp .Gt (.int _ _) (.int _ _)) _ _ _; first
    | with_reducible refine gt_int ?_))
local macro_rules | `(tactic| walk_at "b_x8") => `(tactic| (with_reducible show wpAny _ _ (compareOp .Lt (.int _ _) (.int _ _)) _ _ _; first
    | with_reducible refine lt_int ?_))
local macro_rules | `(tactic| walk_at "b_x5") => `(tactic| (with_reducible show wpAny _ _ (getAttr _ (Str.ofString "hash_function") _) _ _ _; first
    | with_reducible refine gp_hash_function (by assumption) (by first | assumption | ((repeat (first | exact Bl.Holds.head | assumption | apply Bl.Holds.tail)); all_goals fail) | fail) (by first | assumption | ((repeat (first | exact Bl.Holds.head | assumption | apply Bl.Holds.tail)); all_goals fail) | fail) (by first | assumption | with_unfolding_all rfl) (by first | assumption | exact Bl.roomD (by assumption) (by decide) | exact Bl.roomDk (by assumption) (by decide) | exact Bl.room0 (by assumption)) (fun _ _ => ?_)))
local macro_rules | `(tactic| walk_at "b_x5") => `(tactic| (with_reducible show wpAny _ _ (getAttr _ (Str.ofString "bloom") _) _ _ _; first
    | with_reducible refine gp_bloom (by assumption) (by first | assumption | ((repeat (first | exact Bl.Holds.head | assumption | apply Bl.Holds.tail)); all_goals fail) | fail) (by first | assumption | ((repeat (first | exact Bl.Holds.head | assumption | apply Bl.Holds.tail)); all_goals fail) | fail) (by first | assumption | with_unfolding_all rfl) (by first | assumption | exact Bl.roomD (by assumption) (by decide) | exact Bl.roomDk (by assumption) (by decide) | exact Bl.room0 (by assumption)) (fun _ _ => ?_)))
local macro_rules | `(tactic| walk_at "b_x5") => `(tactic| (with_reducible show wpAny _ _ (getAttr _ (Str.ofString "bloom_length") _) _ _ _; first
    | with_reducible refine gp_bloom_length (by assumption) (by first | assumption | ((repeat (first | exact Bl.Holds.head | assumption | apply Bl.Holds.tail)); all_goals fail) | fail) (by first | assumption | ((repeat (first | exact Bl.Holds.head | assumption | apply Bl.Holds.tail)); all_goals fail) | fail) (by first | assumption | with_unfolding_all rfl) (by first | assumption | exact Bl.roomD (by assumption) (by decide) | exact Bl.roomDk (by assumption) (by decide) | exact Bl.room0 (by assumption)) (fun _ _ _ => ?_)))
local macro_rules | `(tactic| walk_at "b_x5") => `(tactic| (with_reducible show wpAny _ _ (getAttr _ (Str.ofString "false_positive_rate") _) _ _ _; first
    | with_reducible refine gp_false_positive_rate (by assumption) (by first | assumption | ((repeat (first | exact Bl.Holds.head | assumption | apply Bl.Holds.tail)); all_goals fail) | fail) (by first | assumption | ((repeat (first | exact Bl.Holds.head | assumption | apply Bl.Holds.tail)); all_goals fail) | fail) (by first | assumption | with_unfolding_all rfl) (by first | assumption | exact Bl.roomD (by assumption) (by decide) | exact Bl.roomDk (by assumption) (by decide) | exact Bl.room0 (by assumption)) (fun _ _ _ => ?_)))
local macro_rules | `(tactic| walk_at "b_x5") => `(tactic| (with_reducible show wpAny _ _ (getAttr _ (Str.ofString "estimated_elements") _) _ _ _; first
    | with_reducible refine gp_estimated_elements (by assumption) (by first | assumption | ((repeat (first | exact Bl.Holds.head | assumption | apply Bl.Holds.tail)); all_goals fail) | fail) (by first | assumption | ((repeat (first | exact Bl.Holds.head | assumption | apply Bl.Holds.tail)); all_goals fail) | fail) (by first | assumption | with_unfolding_all rfl) (by first | assumption | exact Bl.roomD (by assumption) (by decide) | exact Bl.roomDk (by assumption) (by decide) | exact Bl.room0 (by assumption)) (fun _ _ _ => ?_)))
local macro_rules | `(tactic| walk_at "b_x5") => `(tactic| (with_reducible show wpAny _ _ (getAttr _ (Str.ofString "elements_added") _) _ _ _; first
    | with_reducible refine gp_elements_added (by assumption) (by first | assumption | ((repeat (first | exact Bl.Holds.head | assumption | apply Bl.Holds.tail)); all_goals fail) | fail) (by first | assumption | ((repeat (first | exact Bl.Holds.head | assumption | apply Bl.Holds.tail)); all_goals fail) | fail) (by first | assumption | with_unfolding_all rfl) (by first | assumption | exact Bl.roomD (by assumption) (by decide) | exact Bl.roomDk (by assumption) (by decide) | exact Bl.room0 (by assumption)) (fun _ _ _ => ?_)))
local macro_rules | `(tactic| walk_at "b_x5") => `(tactic| (with_reducible show wpAny _ _ (getAttr _ (Str.ofString "number_bits") _) _ _ _; first
    | with_reducible refine gp_number_bits (by assumption) (by first | assumption | ((repeat (first | exact Bl.Holds.head | assumption | apply Bl.Holds.tail)); all_goals fail) | fail) (by first | assumption | ((repeat (first | exact Bl.Holds.head | assumption | apply Bl.Holds.tail)); all_goals fail) | fail) (by first | assumption | with_unfolding_all rfl) (by first | assumption | exact Bl.roomD (by assumption) (by decide) | exact Bl.roomDk (by assumption) (by decide) | exact Bl.room0 (by assumption)) (fun _ _ _ => ?_)))
local macro_rules | `(tactic| walk_at "b_x5") => `(tactic| (with_reducible show wpAny _ _ (getAttr _ (Str.ofString "number_hashes") _) _ _ _; first
    | with_reducible refine gp_number_hashes (by assumption) (by first | assumption | ((repeat (first | exact Bl.Holds.head | assumption | apply Bl.Holds.tail)); all_goals fail) | fail) (by first | assumption | ((repeat (first | exact Bl.Holds.head | assumption | apply Bl.Holds.tail)); all_goals fail) | fail) (by first | assumption | with_unfolding_all rfl) (by first | assumption | exact Bl.roomD (by assumption) (by decide) | exact Bl.roomDk (by assumption) (by decide) | exact Bl.room0 (by assumption)) (fun _ _ _ => ?_)))
local macro_rules | `(tactic| walk_at "b_x5") => `(tactic| (with_reducible show wpAny _ _ (getAttr _ (Str.ofString "_typecode") _) _ _ _; first
    | with_reducible refine gs445_typecode (by assumption) (by first | assumption | ((repeat (first | exact Bl.Holds.head | assumption | apply Bl.Holds.tail)); all_goals fail) | fail) (by first | assumption | ((repeat (first | exact Bl.Holds.head | assumption | apply Bl.Holds.tail)); all_goals fail) | fail) (by with_unfolding_all rfl) (fun _ _ _ => ?_)))
local macro_rules | `(tactic| walk_at "b_x5") => `(tactic| (with_reducible show wpAny _ _ (getAttr _ (Str.ofString "_number_hashes") _) _ _ _; first
    | with_reducible refine gi445_number_hashes (by assumption) (by first | assumption | ((repeat (first | exact Bl.Holds.head | assumption | apply Bl.Holds.tail)); all_goals fail) | fail) (by first | assumption | ((repeat (first | exact Bl.Holds.head | assumption | apply Bl.Holds.tail)); all_goals fail) | fail) (by first | assumption | with_unfolding_all rfl) (fun _ _ _ => ?_)))
local macro_rules | `(tactic| walk_at "b_x5") => `(tactic| (with_reducible show wpAny _ _ (getAttr _ (Str.ofString "_num_bits") _) _ _ _; first
    | with_reducible refine gi445_num_bits (by assumption) (by first | assumption | ((repeat (first | exact Bl.Holds.head | assumption | apply Bl.Holds.tail)); all_goals fail) | fail) (by first | assumption | ((repeat (first | exact Bl.Holds.head | assumption | apply Bl.Holds.tail)); all_goals fail) | fail) (by first | assumption | with_unfolding_all rfl) (fun _ _ _ => ?_)))
local macro_rules | `(tactic| walk_at "b_x5") => `(tactic| (with_reducible show wpAny _ _ (getAttr _ (Str.ofString "_hash_func") _) _ _ _; first
    | with_reducible refine gv445_hash_func (by assumption) (by first | assumption | ((repeat (first | exact Bl.Holds.head | assumption | apply Bl.Holds.tail)); all_goals fail) | fail) (by first | assumption | ((repeat (first | exact Bl.Holds.head | assumption | apply Bl.Holds.tail)); all_goals fail) | fail) (by first | assumption | with_unfolding_all rfl) (fun _ _ => ?_)))
local macro_rules | `(tactic| walk_at "b_x5") => `(tactic| (with_reducible show wpAny _ _ (getAttr _ (Str.ofString "_fpr") _) _ _ _; first
    | with_reducible refine gi445_fpr (by assumption) (by first | assumption | ((repeat (first | exact Bl.Holds.head | assumption | apply Bl.Holds.tail)); all_goals fail) | fail) (by first | assumption | ((repeat (first | exact Bl.Holds.head | assumption | apply Bl.Holds.tail)); all_goals fail) | fail) (by first | assumption | with_unfolding_all rfl) (fun _ _ _ => ?_)))
local macro_rules | `(tactic| walk_at "b_x5") => `(tactic| (with_reducible show wpAny _ _ (getAttr _ (Str.ofString "_est_elements") _) _ _ _; first
    | with_reducible refine gi445_est_elements (by assumption) (by first | assumption | ((repeat (first | exact Bl.Holds.head | assumption | apply Bl.Holds.tail)); all_goals fail) | fail) (by first | assumption | ((repeat (first | exact Bl.Holds.head | assumption | apply Bl.Holds.tail)); all_goals fail) | fail) (by first | assumption | with_unfolding_all rfl) (fun _ _ _ => ?_)))
local macro_rules | `(tactic| walk_at "b_x5") => `(tactic| (with_reducible show wpAny _ _ (getAttr _ (Str.ofString "_els_added") _) _ _ _; first
    | with_reducible refine gi445_els_added (by assumption) (by first | assumption | ((repeat (first | exact Bl.Holds.head | assumption | apply Bl.Holds.tail)); all_goals fail) | fail) (by first | assumption | ((repeat (first | exact Bl.Holds.head | assumption | apply Bl.Holds.tail)); all_goals fail) | fail) (by first | assumption | with_unfolding_all rfl) (fun _ _ _ => ?_)))
local macro_rules | `(tactic| walk_at "b_x5") => `(tactic| (with_reducible show wpAny _ _ (getAttr _ (Str.ofString "_bloom_length") _) _ _ _; first
    | with_reducible refine gi445_bloom_length (by assumption) (by first | assumption | ((repeat (first | exact Bl.Holds.head | assumption | apply Bl.Holds.tail)); all_goals fail) | fail) (by first | assumption | ((repeat (first | exact Bl.Holds.head | assumption | apply Bl.Holds.tail)); all_goals fail) | fail) (by first | assumption | with_unfolding_all rfl) (fun _ _ _ => ?_)
    | with_reducible refine gi332_bloom_length (by assumption) (by first | assumption | ((repeat (first | exact Bl.Holds.head | assumption | apply Bl.Holds.tail)); all_goals fail) | fail) (by first | assumption | ((repeat (first | exact Bl.Holds.head | assumption | apply Bl.Holds.tail)); all_goals fail) | fail) (by first | assumption | with_unfolding_all rfl) (fun _ _ _ => ?_)))
local macro_rules | `(tactic| walk_at "b_x5") => `(tactic| (with_reducible show wpAny _ _ (getAttr _ (Str.ofString "_bloom") _) _ _ _; first
    | with_reducible refine gv445_bloom (by assumption) (by first | assumption | ((repeat (first | exact Bl.Holds.head | assumption | apply Bl.Holds.tail)); all_goals fail) | fail) (by first | assumption | ((repeat (first | exact Bl.Holds.head | assumption | apply Bl.Holds.tail)); all_goals fail) | fail) (by first | assumption | with_unfolding_all rfl) (fun _ _ => ?_)))
local macro_rules | `(tactic| walk_at "b_x6") => `(tactic| (with_reducible show wpAny _ _ (setAttr _ (Str.ofString "elements_added") (.int _ _)) _ _ _; first
    | with_reducible refine sp_elements_added (by assumption) (by first | assumption | ((repeat (first | exact Bl.Upd.head | apply Bl.Upd.tail)); all_goals fail) | fail) (by first | assumption | ((repeat (first | exact Bl.Holds.head | assumption | apply Bl.Holds.tail)); all_goals fail) | fail) (by with_unfolding_all rfl) (by with_unfolding_all exact Nat.le_of_ble_eq_true rfl) (by first | assumption | exact Bl.roomD (by assumption) (by decide) | exact Bl.roomDk (by assumption) (by decide) | exact Bl.room0 (by assumption)) (fun _ _ => ?_)))
local macro_rules | `(tactic| walk_at "b_x6") => `(tactic| (with_reducible show wpAny _ _ (setAttr _ (Str.ofString "_filepath") _) _ _ _; first
    | with_reducible refine sv445_filepath (by assumption) (by first | assumption | ((repeat (first | exact Bl.Upd.head | apply Bl.Upd.tail)); all_goals fail) | fail) (by first | assumption | ((repeat (first | exact Bl.Holds.head | assumption | apply Bl.Holds.tail)); all_goals fail) | fail) (by with_unfolding_all rfl) (by with_unfolding_all exact Nat.le_of_ble_eq_true rfl) (fun _ _ => ?_)))
local macro_rules | `(tactic| walk_at "b_x6") => `(tactic| (with_reducible show wpAny _ _ (setAttr _ (Str.ofString "_typecode") (.str _ _)) _ _ _; first
    | with_reducible refine ss445_typecode (by assumption) (by first | assumption | ((repeat (first | exact Bl.Upd.head | apply Bl.Upd.tail)); all_goals fail) | fail) (by first | assumption | ((repeat (first | exact Bl.Holds.head | assumption | apply Bl.Holds.tail)); all_goals fail) | fail) (by with_unfolding_all rfl) (by with_unfolding_all exact Nat.le_of_ble_eq_true rfl) (fun _ _ => ?_)
    | with_reducible refine ss332_typecode (by assumption) (by first | assumption | ((repeat (first | exact Bl.Upd.head | apply Bl.Upd.tail)); all_goals fail) | fail) (by first | assumption | ((repeat (first | exact Bl.Holds.head | assumption | apply Bl.Holds.tail)); all_goals fail) | fail) (by with_unfolding_all rfl) (by with_unfolding_all exact Nat.le_of_ble_eq_true rfl) (fun _ _ => ?_)))
local macro_rules | `(tactic| walk_at "b_x6") => `(tactic| (with_reducible show wpAny _ _ (setAttr _ (Str.ofString "_type") (.str _ _)) _ _ _; first
    | with_reducible refine ss445_type (by assumption) (by first | assumption | ((repeat (first | exact Bl.Upd.head | apply Bl.Upd.tail)); all_goals fail) | fail) (by first | assumption | ((repeat (first | exact Bl.Holds.head | assumption | apply Bl.Holds.tail)); all_goals fail) | fail) (by with_unfolding_all rfl) (by with_unfolding_all exact Nat.le_of_ble_eq_true rfl) (fun _ _ => ?_)
    | with_reducible refine ss332_type (by assumption) (by first | assumption | ((repeat (first | exact Bl.Upd.head | apply Bl.Upd.tail)); all_goals fail) | fail) (by first | assumption | ((repeat (first | exact Bl.Holds.head | assumption | apply Bl.Holds.tail)); all_goals fail) | fail) (by with_unfolding_all rfl) (by with_unfolding_all exact Nat.le_of_ble_eq_true rfl) (fun _ _ => ?_)))
local macro_rules | `(tactic| walk_at "b_x6") => `(tactic| (with_reducible show wpAny _ _ (setAttr _ (Str.ofString "_on_disk") _) _ _ _; first
    | with_reducible refine sv445_on_disk (by assumption) (by first | assumption | ((repeat (first | exact Bl.Upd.head | apply Bl.Upd.tail)); all_goals fail) | fail) (by first | assumption | ((repeat (first | exact Bl.Holds.head | assumption | apply Bl.Holds.tail)); all_goals fail) | fail) (by with_unfolding_all rfl) (by with_unfolding_all exact Nat.le_of_ble_eq_true rfl) (fun _ _ => ?_)
    | with_reducible refine sv332_on_disk (by assumption) (by first | assumption | ((repeat (first | exact Bl.Upd.head | apply Bl.Upd.tail)); all_goals fail) | fail) (by first | assumption | ((repeat (first | exact Bl.Holds.head | assumption | apply Bl.Holds.tail)); all_goals fail) | fail) (by with_unfolding_all rfl) (by with_unfolding_all exact Nat.le_of_ble_eq_true rfl) (fun _ _ => ?_)))
local macro_rules | `(tactic| walk_at "b_x6") => `(tactic| (with_reducible show wpAny _ _ (setAttr _ (Str.ofString "_number_hashes") (.int _ _)) _ _ _; first
    | with_reducible refine si445_number_hashes (by assumption) (by first | assumption | ((repeat (first | exact Bl.Upd.head | apply Bl.Upd.tail)); all_goals fail) | fail) (by first | assumption | ((repeat (first | exact Bl.Holds.head | assumption | apply Bl.Holds.tail)); all_goals fail) | fail) (by with_unfolding_all rfl) (by with_unfolding_all exact Nat.le_of_ble_eq_true rfl) (fun _ _ => ?_)
    | with_reducible refine si332_number_hashes (by assumption) (by first | assumption | ((repeat (first | exact Bl.Upd.head | apply Bl.Upd.tail)); all_goals fail) | fail) (by first | assumption | ((repeat (first | exact Bl.Holds.head | assumption | apply Bl.Holds.tail)); all_goals fail) | fail) (by with_unfolding_all rfl) (by with_unfolding_all exact Nat.le_of_ble_eq_true rfl) (fun _ _ => ?_)))
local macro_rules | `(tactic| walk_at "b_x6") => `(tactic| (with_reducible show wpAny _ _ (setAttr _ (Str.ofString "_num_bits") (.int _ _)) _ _ _; first
    | with_reducible refine si445_num_bits (by assumption) (by first | assumption | ((repeat (first | exact Bl.Upd.head | apply Bl.Upd.tail)); all_goals fail) | fail) (by first | assumption | ((repeat (first | exact Bl.Holds.head | assumption | apply Bl.Holds.tail)); all_goals fail) | fail) (by with_unfolding_all rfl) (by with_unfolding_all exact Nat.le_of_ble_eq_true rfl) (fun _ _ => ?_)
    | with_reducible refine si332_num_bits (by assumption) (by first | assumption | ((repeat (first | exact Bl.Upd.head | apply Bl.Upd.tail)); all_goals fail) | fail) (by first | assumption | ((repeat (first | exact Bl.Holds.head | assumption | apply Bl.Holds.tail)); all_goals fail) | fail) (by with_unfolding_all rfl) (by with_unfolding_all exact Nat.le_of_ble_eq_true rfl) (fun _ _ => ?_)))
local macro_rules | `(tactic| walk_at "b_x6") => `(tactic| (with_reducible show wpAny _ _ (setAttr _ (Str.ofString "_hash_func") _) _ _ _; first
    | with_reducible refine sv445_hash_func (by assumption) (by first | assumption | ((repeat (first | exact Bl.Upd.head | apply Bl.Upd.tail)); all_goals fail) | fail) (by first | assumption | ((repeat (first | exact Bl.Holds.head | assumption | apply Bl.Holds.tail)); all_goals fail) | fail) (by with_unfolding_all rfl) (by with_unfolding_all exact Nat.le_of_ble_eq_true rfl) (fun _ _ => ?_)
    | with_reducible refine sv332_hash_func (by assumption) (by first | assumption | ((repeat (first | exact Bl.Upd.head | apply Bl.Upd.tail)); all_goals fail) | fail) (by first | assumption | ((repeat (first | exact Bl.Holds.head | assumption | apply Bl.Holds.tail)); all_goals fail) | fail) (by with_unfolding_all rfl) (by with_unfolding_all exact Nat.le_of_ble_eq_true rfl) (fun _ _ => ?_)))
local macro_rules | `(tactic| walk_at "b_x6") => `(tactic| (with_reducible show wpAny _ _ (setAttr _ (Str.ofString "_fpr") (.int _ _)) _ _ _; first
    | with_reducible refine si445_fpr (by assumption) (by first | assumption | ((repeat (first | exact Bl.Upd.head | apply Bl.Upd.tail)); all_goals fail) | fail) (by first | assumption | ((repeat (first | exact Bl.Holds.head | assumption | apply Bl.Holds.tail)); all_goals fail) | fail) (by with_unfolding_all rfl) (by with_unfolding_all exact Nat.le_of_ble_eq_true rfl) (fun _ _ => ?_)
    | with_reducible refine si332_fpr (by assumption) (by first | assumption | ((repeat (first | exact Bl.Upd.head | apply Bl.Upd.tail)); all_goals fail) | fail) (by first | assumption | ((repeat (first | exact Bl.Holds.head | assumption | apply Bl.Holds.tail)); all_goals fail) | fail) (by with_unfolding_all rfl) (by with_unfolding_all exact Nat.le_of_ble_eq_true rfl) (fun _ _ => ?_)))
local macro_rules | `(tactic| walk_at "b_x6") => `(tactic| (with_reducible show wpAny _ _ (setAttr _ (Str.ofString "_est_elements") (.int _ _)) _ _ _; first
    | with_reducible refine si445_est_elements (by assumption) (by first | assumption | ((repeat (first | exact Bl.Upd.head | apply Bl.Upd.tail)); all_goals fail) | fail) (by first | assumption | ((repeat (first | exact Bl.Holds.head | assumption | apply Bl.Holds.tail)); all_goals fail) | fail) (by with_unfolding_all rfl) (by with_unfolding_all exact Nat.le_of_ble_eq_true rfl) (fun _ _ => ?_)
    | with_reducible refine si332_est_elements (by assumption) (by first | assumption | ((repeat (first | exact Bl.Upd.head | apply Bl.Upd.tail)); all_goals fail) | fail) (by first | assumption | ((repeat (first | exact Bl.Holds.head | assumption | apply Bl.Holds.tail)); all_goals fail) | fail) (by with_unfolding_all rfl) (by with_unfolding_all exact Nat.le_of_ble_eq_true rfl) (fun _ _ => ?_)))
local macro_rules | `(tactic| walk_at "b_x6") => `(tactic| (with_reducible show wpAny _ _ (setAttr _ (Str.ofString "_els_added") (.int _ _)) _ _ _; first
    | with_reducible refine si445_els_added (by assumption) (by first | assumption | ((repeat (first | exact Bl.Upd.head | apply Bl.Upd.tail)); all_goals fail) | fail) (by first | assumption | ((repeat (first | exact Bl.Holds.head | assumption | apply Bl.Holds.tail)); all_goals fail) | fail) (by with_unfolding_all rfl) (by with_unfolding_all exact Nat.le_of_ble_eq_true rfl) (fun _ _ => ?_)
    | with_reducible refine si332_els_added (by assumption) (by first | assumption | ((repeat (first | exact Bl.Upd.head | apply Bl.Upd.tail)); all_goals fail) | fail) (by first | assumption | ((repeat (first | exact Bl.Holds.head | assumption | apply Bl.Holds.tail)); all_goals fail) | fail) (by with_unfolding_all rfl) (by with_unfolding_all exact Nat.le_of_ble_eq_true rfl) (fun _ _ => ?_)))
local macro_rules | `(tactic| walk_at "b_x6") => `(tactic| (with_reducible show wpAny _ _ (setAttr _ (Str.ofString "_bloom_length") (.int _ _)) _ _ _; first
    | with_reducible refine si445_bloom_length (by assumption) (by first | assumption | ((repeat (first | exact Bl.Upd.head | apply Bl.Upd.tail)); all_goals fail) | fail) (by first | assumption | ((repeat (first | exact Bl.Holds.head | assumption | apply Bl.Holds.tail)); all_goals fail) | fail) (by with_unfolding_all rfl) (by with_unfolding_all exact Nat.le_of_ble_eq_true rfl) (fun _ _ => ?_)
    | with_reducible refine si332_bloom_length (by assumption) (by first | assumption | ((repeat (first | exact Bl.Upd.head | apply Bl.Upd.tail)); all_goals fail) | fail) (by first | assumption | ((repeat (first | exact Bl.Holds.head | assumption | apply Bl.Holds.tail)); all_goals fail) | fail) (by with_unfolding_all rfl) (by with_unfolding_all exact Nat.le_of_ble_eq_true rfl) (fun _ _ => ?_)))
local macro_rules | `(tactic| walk_at "b_x6") => `(tactic| (with_reducible show wpAny _ _ (setAttr _ (Str.ofString "_bloom") _) _ _ _; first
    | with_reducible refine sv445_bloom (by assumption) (by first | assumption | ((repeat (first | exact Bl.Upd.head | apply Bl.Upd.tail)); all_goals fail) | fail) (by first | assumption | ((repeat (first | exact Bl.Holds.head | assumption | apply Bl.Holds.tail)); all_goals fail) | fail) (by with_unfolding_all rfl) (by with_unfolding_all exact Nat.le_of_ble_eq_true rfl) (fun _ _ => ?_)
    | with_reducible refine sv332_bloom (by assumption) (by first | assumption | ((repeat (first | exact Bl.Upd.head | apply Bl.Upd.tail)); all_goals fail) | fail) (by first | assumption | ((repeat (first | exact Bl.Holds.head | assumption | apply Bl.Holds.tail)); all_goals fail) | fail) (by with_unfolding_all rfl) (by with_unfolding_all exact Nat.le_of_ble_eq_true rfl) (fun _ _ => ?_)))
local macro_rules | `(tactic| walk_at "b_x7") => `(tactic| (with_reducible show wpAny _ _ (getMethod _ (Str.ofString "_verify_bloom_similarity") _) _ _ _; first
    | with_reducible refine m445_verify_bloom_similarity (by assumption) (by first | assumption | ((repeat (first | exact Bl.Holds.head | assumption | apply Bl.Holds.tail)); all_goals fail) | fail) (by first | assumption | ((repeat (first | exact Bl.Holds.head | assumption | apply Bl.Holds.tail)); all_goals fail) | fail) ?_))
local macro_rules | `(tactic| walk_at "b_x7") => `(tactic| (with_reducible show wpAny _ _ (getMethod _ (Str.ofString "_cnt_number_bits_set") _) _ _ _; first
    | with_reducible refine m445_cnt_number_bits_set (by assumption) (by first | assumption | ((repeat (first | exact Bl.Holds.head | assumption | apply Bl.Holds.tail)); all_goals fail) | fail) (by first | assumption | ((repeat (first | exact Bl.Holds.head | assumption | apply Bl.Holds.tail)); all_goals fail) | fail) ?_))
local macro_rules | `(tactic| walk_at "b_x7") => `(tactic| (with_reducible show wpAny _ _ (getMethod _ (Str.ofString "estimate_elements") _) _ _ _; first
    | with_reducible refine m445_estimate_elements (by assumption) (by first | assumption | ((repeat (first | exact Bl.Holds.head | assumption | apply Bl.Holds.tail)); all_goals fail) | fail) (by first | assumption | ((repeat (first | exact Bl.Holds.head | assumption | apply Bl.Holds.tail)); all_goals fail) | fail) ?_))
local macro_rules | `(tactic| walk_at "b_x7") => `(tactic| (with_reducible show wpAny _ _ (getMethod _ (Str.ofString "intersection") _) _ _ _; first
    | with_reducible refine m445_intersection (by assumption) (by first | assumption | ((repeat (first | exact Bl.Holds.head | assumption | apply Bl.Holds.tail)); all_goals fail) | fail) (by first | assumption | ((repeat (first | exact Bl.Holds.head | assumption | apply Bl.Holds.tail)); all_goals fail) | fail) ?_))
local macro_rules | `(tactic| walk_at "b_x7") => `(tactic| (with_reducible show wpAny _ _ (getMethod _ (Str.ofString "union") _) _ _ _; first
    | with_reducible refine m445_union (by assumption) (by first | assumption | ((repeat (first | exact Bl.Holds.head | assumption | apply Bl.Holds.tail)); all_goals fail) | fail) (by first | assumption | ((repeat (first | exact Bl.Holds.head | assumption | apply Bl.Holds.tail)); all_goals fail) | fail) ?_))
local macro_rules | `(tactic| walk_at "b_x7") => `(tactic| (with_reducible show wpAny _ _ (getMethod _ (Str.ofString "clear") _) _ _ _; first
    | with_reducible refine m445_clear (by assumption) (by first | assumption | ((repeat (first | exact Bl.Holds.head | assumption | apply Bl.Holds.tail)); all_goals fail) | fail) (by first | assumption | ((repeat (first | exact Bl.Holds.head | assumption | apply Bl.Holds.tail)); all_goals fail) | fail) ?_))
local macro_rules | `(tactic| walk_at "b_x7") => `(tactic| (with_reducible show wpAny _ _ (getMethod _ (Str.ofString "remove") _) _ _ _; first
    | with_reducible refine m445_remove (by assumption) (by first | assumption | ((repeat (first | exact Bl.Holds.head | assumption | apply Bl.Holds.tail)); all_goals fail) | fail) (by first | assumption | ((repeat (first | exact Bl.Holds.head | assumption | apply Bl.Holds.tail)); all_goals fail) | fail) ?_))
local macro_rules | `(tactic| walk_at "b_x7") => `(tactic| (with_reducible show wpAny _ _ (getMethod _ (Str.ofString "check") _) _ _ _; first
    | with_reducible refine m445_check (by assumption) (by first | assumption | ((repeat (first | exact Bl.Holds.head | assumption | apply Bl.Holds.tail)); all_goals fail) | fail) (by first | assumption | ((repeat (first | exact Bl.Holds.head | assumption | apply Bl.Holds.tail)); all_goals fail) | fail) ?_))
local macro_rules | `(tactic| walk_at "b_x7") => `(tactic| (with_reducible show wpAny _ _ (getMethod _ (Str.ofString "add") _) _ _ _; first
    | with_reducible refine m445_add (by assumption) (by first | assumption | ((repeat (first | exact Bl.Holds.head | assumption | apply Bl.Holds.tail)); all_goals fail) | fail) (by first | assumption | ((repeat (first | exact Bl.Holds.head | assumption | apply Bl.Holds.tail)); all_goals fail) | fail) ?_))
local macro_rules | `(tactic| walk_at "b_x7") => `(tactic| (with_reducible show wpAny _ _ (getMethod _ (Str.ofString "remove_alt") _) _ _ _; first
    | with_reducible refine m445_remove_alt (by assumption) (by first | assumption | ((repeat (first | exact Bl.Holds.head | assumption | apply Bl.Holds.tail)); all_goals fail) | fail) (by first | assumption | ((repeat (first | exact Bl.Holds.head | assumption | apply Bl.Holds.tail)); all_goals fail) | fail) ?_))
local macro_rules | `(tactic| walk_at "b_x7") => `(tactic| (with_reducible show wpAny _ _ (getMethod _ (Str.ofString "check_alt") _) _ _ _; first
    | with_reducible refine m445_check_alt (by assumption) (by first | assumption | ((repeat (first | exact Bl.Holds.head | assumption | apply Bl.Holds.tail)); all_goals fail) | fail) (by first | assumption | ((repeat (first | exact Bl.Holds.head | assumption | apply Bl.Holds.tail)); all_goals fail) | fail) ?_))
local macro_rules | `(tactic| walk_at "b_x7") => `(tactic| (with_reducible show wpAny _ _ (getMethod _ (Str.ofString "add_alt") _) _ _ _; first
    | with_reducible refine m445_add_alt (by assumption) (by first | assumption | ((repeat (first | exact Bl.Holds.head | assumption | apply Bl.Holds.tail)); all_goals fail) | fail) (by first | assumption | ((repeat (first | exact Bl.Holds.head | assumption | apply Bl.Holds.tail)); all_goals fail) | fail) ?_))
local macro_rules | `(tactic| walk_at "b_x7") => `(tactic| (with_reducible show wpAny _ _ (getMethod _ (Str.ofString "hashes") _) _ _ _; first
    | with_reducible refine m445_hashes (by assumption) (by first | assumption | ((repeat (first | exact Bl.Holds.head | assumption | apply Bl.Holds.tail)); all_goals fail) | fail) (by first | assumption | ((repeat (first | exact Bl.Holds.head | assumption | apply Bl.Holds.tail)); all_goals fail) | fail) ?_))
local macro_rules | `(tactic| walk_at "b_x7") => `(tactic| (with_reducible show wpAny _ _ (getMethod _ (Str.ofString "_set_values") _) _ _ _; first
    | with_reducible refine m445_set_values (by assumption) (by first | assumption | ((repeat (first | exact Bl.Holds.head | assumption | apply Bl.Holds.tail)); all_goals fail) | fail) (by first | assumption | ((repeat (first | exact Bl.Holds.head | assumption | apply Bl.Holds.tail)); all_goals fail) | fail) ?_
    | with_reducible refine m332_set_values (by assumption) (by first | assumption | ((repeat (first | exact Bl.Holds.head | assumption | apply Bl.Holds.tail)); all_goals fail) | fail) (by first | assumption | ((repeat (first | exact Bl.Holds.head | assumption | apply Bl.Holds.tail)); all_goals fail) | fail) ?_))
local macro_rules | `(tactic| walk_at "b_x7") => `(tactic| (with_reducible show wpAny _ _ (getMethod _ (Str.ofString "_load_init") _) _ _ _; first
    | with_reducible refine m445_load_init (by assumption) (by first | assumption | ((repeat (first | exact Bl.Holds.head | assumption | apply Bl.Holds.tail)); all_goals fail) | fail) (by first | assumption | ((repeat (first | exact Bl.Holds.head | assumption | apply Bl.Holds.tail)); all_goals fail) | fail) ?_
    | with_reducible refine m332_load_init (by assumption) (by first | assumption | ((repeat (first | exact Bl.Holds.head | assumption | apply Bl.Holds.tail)); all_goals fail) | fail) (by first | assumption | ((repeat (first | exact Bl.Holds.head | assumption | apply Bl.Holds.tail)); all_goals fail) | fail) ?_))
local macro_rules | `(tactic| walk_at "b_x7") => `(tactic| (with_reducible show wpAny _ _ (getMethod _ (Str.ofString "_hash_func") _) _ _ _; first
    | with_reducible refine mh_hash_func (by assumption) (by first | assumption | ((repeat (first | exact Bl.Holds.head | assumption | apply Bl.Holds.tail)); all_goals fail) | fail) (by first | assumption | ((repeat (first | exact Bl.Holds.head | assumption | apply Bl.Holds.tail)); all_goals fail) | fail) (by first | assumption | with_unfolding_all rfl) (fun _ _ => ?_)))
local macro_rules | `(tactic| walk_at "b_x7") => `(tactic| (with_reducible show wpAny _ _ (getMethod (.int _ _) (Str.ofString "bit_length") _) _ _ _; first
    | with_reducible refine PyProof.Rows.getMethod_int_bit_length ?_))
local macro_rules | `(tactic| walk_at "b_x4") => `(tactic| (with_reducible show wpAny _ _ (eval (.Name _ _) _) _ _ _; walk_at "b_x9"))
local macro_rules | `(tactic| walk_at "b_st") => `(tactic| (with_reducible show wpAny _ _ (call (.builtin "min") _) _ _ _; first
    | with_reducible refine x_min2 (by assumption) (by with_unfolding_all assumption) (fun _ _ _ => ?_)))
local macro_rules | `(tactic| walk_at "b_st") => `(tactic| (with_reducible show wpAny _ _ (call (.builtin "ord") _) _ _ _; first
    | with_reducible refine w_ord (by assumption) (fun _ _ _ => ?_)))
local macro_rules | `(tactic| walk_at "b_st") => `(tactic| (with_reducible show wpAny _ _ (call (.builtin "int.bit_length") _) _ _ _; first
    | with_reducible refine x_blen (by assumption) (fun _ _ _ => ?_)))
local macro_rules | `(tactic| walk_at "b_st") => `(tactic| (with_reducible show wpAny _ _ (call (.type "range") _) _ _ _; first
    | with_reducible refine x_range1 (by assumption) (fun _ _ _ => ?_)
    | with_reducible refine x_range2 (by assumption) (fun _ _ _ => ?_)))
local macro_rules | `(tactic| walk_at "b_st") => `(tactic| (with_reducible show wpAny _ _ (loadName _ _) _ _ _; first
    | with_reducible refine w_loadLocal (by assumption) (by assumption) (by first | assumption | ((repeat (first | exact Bl.Holds.head | assumption | apply Bl.Holds.tail)); all_goals fail) | fail) (by first | ((repeat (first | exact List.mem_cons_self | apply List.mem_cons_of_mem)); all_goals fail) | fail) ?_
    | with_reducible refine w_loadCell (by assumption) (by assumption) (by first | ((repeat (first | exact List.mem_cons_self | apply List.mem_cons_of_mem)); all_goals fail) | fail) (by first | assumption | ((repeat (first | exact Bl.Holds.head | assumption | apply Bl.Holds.tail)); all_goals fail) | fail) ?_))
local macro_rules | `(tactic| walk_at "b_st") => `(tactic| (with_reducible show wpAny _ _ (assign (.Name _ _) _ _) _ _ _; first
    | with_reducible refine PySem.wpAny_assign_Name ?_))
local macro_rules | `(tactic| walk_at "b_st") => `(tactic| (with_reducible show wpAny _ _ (storeName _ _ _) _ _ _; first
    | with_reducible refine w_store (by assumption) (by assumption) (by first | assumption | ((repeat (first | exact Bl.Upd.head | apply Bl.Upd.tail)); all_goals fail) | fail) (by first | ((repeat (first | exact Bl.Put.head | apply Bl.Put.tail)); all_goals fail) | fail) (fun _ _ => ?_)
    | with_reducible refine w_storeCell (by assumption) (by assumption) (by first | ((repeat (first | exact List.mem_cons_self | apply List.mem_cons_of_mem)); all_goals fail) | fail) (by first | assumption | ((repeat (first | exact Bl.Upd.head | apply Bl.Upd.tail)); all_goals fail) | fail) (fun _ _ => ?_)))
local macro_rules | `(tactic| walk_at "b_st") => `(tactic| (with_reducible show wpAny _ _ (truthy (.int _ _)) _ _ _; first
    | with_reducible refine PyProof.Rows.truthy_int ?_))
local macro_rules | `(tactic| walk_at "b_st") => `(tactic| (with_reducible show wpAny _ _ (truthy (.bool _)) _ _ _; first
    | with_reducible refine wpAny_truthy_bool ?_))
local macro_rules | `(tactic| walk_at "b_st") => `(tactic| (with_reducible show wpAny _ _ (unaryOp .USub (.int _ _)) _ _ _; first
    | with_reducible refine w_neg (by assumption) (fun _ _ _ => ?_)))
local macro_rules | `(tactic| walk_at "b_st") => `(tactic| (with_reducible show wpAny _ _ (unaryOp .Not (.bool _)) _ _ _; first
    | with_reducible refine w_notb ?_))
local macro_rules | `(tactic| walk_at "b_st") => `(tactic| (with_reducible show wpAny _ _ (inplaceOp .Sub (.int _ _) (.int _ _)) _ _ _; first
    | with_reducible refine w_isub (by assumption) (fun _ _ _ => ?_)))
local macro_rules | `(tactic| walk_at "b_st") => `(tactic| (with_reducible show wpAny _ _ (inplaceOp .Add (.int _ _) (.int _ _)) _ _ _; first
    | with_reducible refine w_iadd (by assumption) (fun _ _ _ => ?_)))
local macro_rules | `(tactic| walk_at "b_st") => `(tactic| (with_reducible show wpAny _ _ (binaryOp .BitOr (.int _ _) (.int _ _)) _ _ _; first
    | with_reducible refine w_or (by assumption) (fun _ _ _ => ?_)))
local macro_rules | `(tactic| walk_at "b_st") => `(tactic| (with_reducible show wpAny _ _ (binaryOp .BitAnd (.int _ _) (.int _ _)) _ _ _; first
    | with_reducible refine w_and (by assumption) (fun _ _ _ => ?_)))
local macro_rules | `(tactic| walk_at "b_st") => `(tactic| (with_reducible show wpAny _ _ (binaryOp .Sub (.int _ _) (.int _ _)) _ _ _; first
    | with_reducible refine w_sub (by assumption) (fun _ _ _ => ?_)))
local macro_rules | `(tactic| walk_at "b_st") => `(tactic| (with_reducible show wpAny _ _ (binaryOp .Add (.int _ _) (.int _ _)) _ _ _; first
    | with_reducible refine w_add (by assumption) (fun _ _ _ => ?_)))
local macro_rules | `(tactic| walk_at "b_st") => `(tactic| (with_reducible show wpAny _ _ (callWith _ (.ref _) _ (backTo _ (starEach [] _)) _) _ _ _; first
    | with_reducible refine x_cwK0 ?_ (by with_unfolding_all rfl)))
local macro_rules | `(tactic| walk_at "b_st") => `(tactic| (with_reducible show wpAny _ _ (callWith _ (.ref _) _ (backTo _ (starEach (_ :: _) _)) _) _ _ _; first
    | with_reducible refine x_cwK ?_ (by with_unfolding_all rfl)))
local macro_rules | `(tactic| walk_at "b_st") => `(tactic| (with_reducible show wpAny _ _ (callWith _ (.type _) _ (backTo _ (starEach [] _)) _) _ _ _; first
    | with_reducible refine w_cwT0 ?_))
local macro_rules | `(tactic| walk_at "b_st") => `(tactic| (with_reducible show wpAny _ _ (callWith _ (.type _) _ (backTo _ (starEach (_ :: _) _)) _) _ _ _; first
    | with_reducible refine x_cwT ?_))
local macro_rules | `(tactic| walk_at "b_st") => `(tactic| (with_reducible show wpAny _ _ (callWith _ (.builtin _) _ (backTo _ (starEach [] _)) _) _ _ _; first
    | with_reducible refine w_cwB0 ?_))
local macro_rules | `(tactic| walk_at "b_st") => `(tactic| (with_reducible show wpAny _ _ (callWith _ (.builtin _) _ (backTo _ (starEach (_ :: _) _)) _) _ _ _; first
    | with_reducible refine x_cwB ?_))
local macro_rules | `(tactic| walk_at "b_st") => `(tactic| (with_reducible show wpAny _ _ (evalAll ((backToKw _ (keywordEach (_ :: _) _)).map _)) _ _ _; first
    | with_reducible refine kwAll_cons ?_))
local macro_rules | `(tactic| walk_at "b_st") => `(tactic| (with_reducible show wpAny _ _ (evalAll ((backToKw _ (keywordEach [] _)).map _)) _ _ _; first
    | with_reducible refine kwAll_nil ?_))
local macro_rules | `(tactic| walk_at "b_st") => `(tactic| (with_reducible show wpAny _ _ (spliced (backTo _ (starEach (_ :: _) _))) _ _ _; first
    | with_reducible refine x_More ?_))
local macro_rules | `(tactic| walk_at "b_st") => `(tactic| (with_reducible show wpAny _ _ (spliced (backTo _ (starEach [] _))) _ _ _; first
    | with_reducible refine spliced_none ?_))
local macro_rules | `(tactic| walk_at "b_st") => `(tactic| (with_reducible show (if ((!false) = true) then _ else _); with_reducible refine ite_nf ?_))
local macro_rules | `(tactic| walk_at "b_st") => `(tactic| (with_reducible show (if ((!true) = true) then _ else _); with_reducible refine ite_nt ?_))
local macro_rules | `(tactic| walk_at "b_st") => `(tactic| (with_reducible show (if (false = true) then _ else _); with_reducible refine ite_f ?_))
local macro_rules | `(tactic| walk_at "b_st") => `(tactic| (with_reducible show (if (true = true) then _ else _); with_reducible refine ite_t ?_))
local macro_rules | `(tactic| walk_at "b_st") => `(tactic| (with_reducible show wpAny _ _ (testsOf [_] _) _ _ _; first
    | with_reducible refine w_tests1 ?_))
local macro_rules | `(tactic| walk_at "b_st") => `(tactic| (with_reducible show wpAny _ _ (testsOf [] _) _ _ _; first
    | with_reducible refine w_tests0 ?_))
local macro_rules | `(tactic| walk_at "b_st") => `(tactic| (with_reducible show (∃ σ, Bl.Rep _ σ _) ∧ _; refine ⟨⟨_, by assumption⟩, ?_⟩))
local macro_rules | `(tactic| walk_at "b_st") => `(tactic| (with_reducible show (if (!_ == Value.none) = true then _ else _); first | refine iteT (by with_unfolding_all rfl) ?_ | refine iteF (by with_unfolding_all rfl) ?_))
local macro_rules | `(tactic| walk_at "b_st") => `(tactic| (with_reducible show (if (_ == Value.none) = true then _ else _); first | refine iteT (by with_unfolding_all rfl) ?_ | refine iteF (by with_unfolding_all rfl) ?_))
local macro_rules | `(tactic| walk_at "b_st") => `(tactic| (with_reducible show wpAny _ _ (compareOp _ _ _) _ _ _; walk_at "b_x8"))
local macro_rules | `(tactic| walk_at "b_st") => `(tactic| (with_reducible show wpAny _ _ (getMethod _ _ _) _ _ _; walk_at "b_x7"))
local macro_rules | `(tactic| walk_at "b_st") => `(tactic| (with_reducible show wpAny _ _ (setAttr _ _ _) _ _ _; walk_at "b_x6"))
local macro_rules | `(tactic| walk_at "b_st") => `(tactic| (with_reducible show wpAny _ _ (getAttr _ _ _) _ _ _; walk_at "b_x5"))
local macro_rules | `(tactic| walk_at "b_st") => `(tactic| (with_reducible show wpAny _ _ (eval _ _) _ _ _; walk_at "b_x4"))
local macro_rules | `(tactic| walk_at "b_st") => `(tactic| (with_reducible show wpAny _ _ (PySem.isTrue _ _ _) _ _ _; walk_at "b_x3"))
local macro_rules | `(tactic| walk_at "b_st") => `(tactic| (with_reducible show wpAny _ _ (exec _ _) _ _ _; walk_at "b_x2"))
local macro_rules | `(tactic| walk_at "b_st") => `(tactic| (with_reducible show wpAny _ _ (execs _ _) _ _ _; walk_at "b_x1"))
local macro_rules | `(tactic| walk_at "b_go") => `(tactic| repeat walk_at "b_st")

namespace Bl
section
variable {G : Gd hd.heap_39} {A : Around} {E : Value → Shared → Prop} {σ τ : Led} {s : Shared} {env : Env}

/-- a counting filter -/
def cbf (b f : Addr) (m k est n : Int) : List SV := [.va .none, .no, .va (.ref b), .nu m, .nu n, .nu est, .nu m, .va (.ref f), .nu m, .nu k, .va (.bool false), .st "counting", .st "I"]

theorem set_step {ns : List Int} {i : Nat} {v : Int} (hi : i < ns.length) : (List.replicate i v ++ ns.drop i).set i v = List.replicate (i + 1) v ++ ns.drop (i + 1) := by
  rw [List.set_append_right _ _ (by simp)]
  simp only [List.length_replicate, Nat.sub_self]
  rw [List.drop_eq_getElem_cons hi, List.set_cons_zero, List.replicate_succ', List.append_assoc]
  rfl
theorem sp_clear {x b f dx : Addr} {m k est n : Int} {ns : List Int} {R' : Result → Shared → Prop} (R : Rep G ((x, obj 445 dx (cbf b f m k est n)) :: (b, isInts ns) :: τ) s) (hdx : Holds G τ dx isAny) (hroom : A.depth < recursionLimit) (hh : A.handled = none)
    (hm : m = ns.length) (hm62 : m < 2 ^ 62)
    (h : ∀ s', Rep G ((x, obj 445 dx (cbf b f m k est 0)) :: (b, isInts (List.replicate ns.length 0)) :: τ) s' → R' (.ok (.ret .none)) s') :
    codeAny (model G.prog G.w) A (.call (.ref 233) ⟨[.ref x], []⟩) R' s := by
  refine c_K [("self", .ref x)] [("self", some (.ref x)), ("idx", none)] R hroom rfl (fun _ => BindsTo.of_eq rfl) (fun L s' env R he hf hfn => ?_)
  walk_at "b_go"
  refine w_iterRange (n := ns.length) (by assumption) (by walk_at "b_mem") (by omega) (by omega) (by omega) (fun it s₁ hn R₁ => ?_)
  refine w_forLoop (Iter.range hn _ _ _) (fun i σ' => ∃ o ns', ns' = List.replicate i 0 ++ ns.drop i ∧ σ' = ((L, isNs [(Str.ofString "self", some (.ref x)), (Str.ofString "idx", o)]) :: (x, obj 445 dx (cbf b f m k est 0)) :: (b, isInts ns') :: τ)) hh (R₁.sel (by walk_at "b_sel")) ⟨none, ns, by simp, rfl⟩ (fun _ _ _ => trivial) ?_ ?_
  · rintro E' i σ' s₂ v hi ⟨t, rfl⟩ ⟨o, ns', hns, rfl⟩ R₂
    walk_at "b_go"
    refine w_setItemI (by assumption) (by walk_at "b_upd") (by omega) (by simp [hns]; omega) (by omega) (fun s₃ R₃ => ?_)
    walk_at "b_go"
    refine ⟨_, R₃, _, _, ?_, rfl⟩
    rw [hns]
    simp only [Int.zero_add, Int.mul_one, Int.toNat_natCast]
    exact set_step hi
  · rintro σ' s₂ ⟨o, ns', hns, rfl⟩ R₂
    walk_at "b_go"
    rw [List.drop_length, List.append_nil] at hns
    subst hns
    exact h _ (R₂.sel (by walk_at "b_sel"))
end
end Bl

namespace Bl
section
variable {G : Gd hd.heap_39} {A : Around} {E : Value → Shared → Prop} {σ τ : Led} {s : Shared}
theorem gp_number_hashes {x dx : Addr} {svs : List SV} {n : Int} {e : Bool} {Q : Value → Shared → Prop} (R : Rep G σ s) (hm : Holds G σ x (obj 445 dx svs)) (hdx : Holds G σ dx isAny) (hv : svs.getD 9 .no = .nu n) (hroom : A.depth < recursionLimit) (h : ∀ t s', Rep G σ s' → Q (.int n t) s') :
    wpAny (model G.prog G.w) A (getAttr (.ref x) (Str.ofString "number_hashes") e) Q E s := by
  refine w_getprop (fget := 168) R hm hdx (fun s' R' R1 e => ?_)
  subst e
  refine c_K [("self", .ref x)] [("self", some (.ref x))] R1 hroom rfl (fun _ => BindsTo.of_eq rfl) (fun L s' env R he hf hfn => ?_)
  have hm' := hm.tail (p := (L, isNs [("self", some (.ref x))]))
  walk_at "b_go"
  exact ⟨rfl, h _ _ (Rep.drop1 (by assumption))⟩
theorem gp_number_bits {x dx : Addr} {svs : List SV} {n : Int} {e : Bool} {Q : Value → Shared → Prop} (R : Rep G σ s) (hm : Holds G σ x (obj 445 dx svs)) (hdx : Holds G σ dx isAny) (hv : svs.getD 8 .no = .nu n) (hroom : A.depth < recursionLimit) (h : ∀ t s', Rep G σ s' → Q (.int n t) s') :
    wpAny (model G.prog G.w) A (getAttr (.ref x) (Str.ofString "number_bits") e) Q E s := by
  refine w_getprop (fget := 176) R hm hdx (fun s' R' R1 e => ?_)
  subst e
  refine c_K [("self", .ref x)] [("self", some (.ref x))] R1 hroom rfl (fun _ => BindsTo.of_eq rfl) (fun L s' env R he hf hfn => ?_)
  have hm' := hm.tail (p := (L, isNs [("self", some (.ref x))]))
  walk_at "b_go"
  exact ⟨rfl, h _ _ (Rep.drop1 (by assumption))⟩
theorem gp_elements_added {x dx : Addr} {svs : List SV} {n : Int} {e : Bool} {Q : Value → Shared → Prop} (R : Rep G σ s) (hm : Holds G σ x (obj 445 dx svs)) (hdx : Holds G σ dx isAny) (hv : svs.getD 4 .no = .nu n) (hroom : A.depth < recursionLimit) (h : ∀ t s', Rep G σ s' → Q (.int n t) s') :
    wpAny (model G.prog G.w) A (getAttr (.ref x) (Str.ofString "elements_added") e) Q E s := by
  refine w_getprop (fget := 184) R hm hdx (fun s' R' R1 e => ?_)
  subst e
  refine c_K [("self", .ref x)] [("self", some (.ref x))] R1 hroom rfl (fun _ => BindsTo.of_eq rfl) (fun L s' env R he hf hfn => ?_)
  have hm' := hm.tail (p := (L, isNs [("self", some (.ref x))]))
  walk_at "b_go"
  exact ⟨rfl, h _ _ (Rep.drop1 (by assumption))⟩
theorem gp_estimated_elements {x dx : Addr} {svs : List SV} {n : Int} {e : Bool} {Q : Value → Shared → Prop} (R : Rep G σ s) (hm : Holds G σ x (obj 445 dx svs)) (hdx : Holds G σ dx isAny) (hv : svs.getD 5 .no = .nu n) (hroom : A.depth < recursionLimit) (h : ∀ t s', Rep G σ s' → Q (.int n t) s') :
    wpAny (model G.prog G.w) A (getAttr (.ref x) (Str.ofString "estimated_elements") e) Q E s := by
  refine w_getprop (fget := 160) R hm hdx (fun s' R' R1 e => ?_)
  subst e
  refine c_K [("self", .ref x)] [("self", some (.ref x))] R1 hroom rfl (fun _ => BindsTo.of_eq rfl) (fun L s' env R he hf hfn => ?_)
  have hm' := hm.tail (p := (L, isNs [("self", some (.ref x))]))
  walk_at "b_go"
  exact ⟨rfl, h _ _ (Rep.drop1 (by assumption))⟩
theorem gp_false_positive_rate {x dx : Addr} {svs : List SV} {n : Int} {e : Bool} {Q : Value → Shared → Prop} (R : Rep G σ s) (hm : Holds G σ x (obj 445 dx svs)) (hdx : Holds G σ dx isAny) (hv : svs.getD 6 .no = .nu n) (hroom : A.depth < recursionLimit) (h : ∀ t s', Rep G σ s' → Q (.int n t) s') :
    wpAny (model G.prog G.w) A (getAttr (.ref x) (Str.ofString "false_positive_rate") e) Q E s := by
  refine w_getprop (fget := 152) R hm hdx (fun s' R' R1 e => ?_)
  subst e
  refine c_K [("self", .ref x)] [("self", some (.ref x))] R1 hroom rfl (fun _ => BindsTo.of_eq rfl) (fun L s' env R he hf hfn => ?_)
  have hm' := hm.tail (p := (L, isNs [("self", some (.ref x))]))
  walk_at "b_go"
  exact ⟨rfl, h _ _ (Rep.drop1 (by assumption))⟩
theorem gp_bloom_length {x dx : Addr} {svs : List SV} {n : Int} {e : Bool} {Q : Value → Shared → Prop} (R : Rep G σ s) (hm : Holds G σ x (obj 445 dx svs)) (hdx : Holds G σ dx isAny) (hv : svs.getD 3 .no = .nu n) (hroom : A.depth < recursionLimit) (h : ∀ t s', Rep G σ s' → Q (.int n t) s') :
    wpAny (model G.prog G.w) A (getAttr (.ref x) (Str.ofString "bloom_length") e) Q E s := by
  refine w_getprop (fget := 209) R hm hdx (fun s' R' R1 e => ?_)
  subst e
  refine c_K [("self", .ref x)] [("self", some (.ref x))] R1 hroom rfl (fun _ => BindsTo.of_eq rfl) (fun L s' env R he hf hfn => ?_)
  have hm' := hm.tail (p := (L, isNs [("self", some (.ref x))]))
  walk_at "b_go"
  exact ⟨rfl, h _ _ (Rep.drop1 (by assumption))⟩
theorem gp_bloom {x v dx : Addr} {svs : List SV} {e : Bool} {Q : Value → Shared → Prop} (R : Rep G σ s) (hm : Holds G σ x (obj 445 dx svs)) (hdx : Holds G σ dx isAny) (hv : svs.getD 2 .no = .va (.ref v)) (hroom : A.depth < recursionLimit) (h : ∀ s', Rep G σ s' → Q (.ref v) s') :
    wpAny (model G.prog G.w) A (getAttr (.ref x) (Str.ofString "bloom") e) Q E s := by
  refine w_getprop (fget := 217) R hm hdx (fun s' R' R1 e => ?_)
  subst e
  refine c_K [("self", .ref x)] [("self", some (.ref x))] R1 hroom rfl (fun _ => BindsTo.of_eq rfl) (fun L s' env R he hf hfn => ?_)
  have hm' := hm.tail (p := (L, isNs [("self", some (.ref x))]))
  walk_at "b_go"
  exact ⟨rfl, h _ (Rep.drop1 (by assumption))⟩
theorem gp_hash_function {x v dx : Addr} {svs : List SV} {e : Bool} {Q : Value → Shared → Prop} (R : Rep G σ s) (hm : Holds G σ x (obj 445 dx svs)) (hdx : Holds G σ dx isAny) (hv : svs.getD 7 .no = .va (.ref v)) (hroom : A.depth < recursionLimit) (h : ∀ s', Rep G σ s' → Q (.ref v) s') :
    wpAny (model G.prog G.w) A (getAttr (.ref x) (Str.ofString "hash_function") e) Q E s := by
  refine w_getprop (fget := 225) R hm hdx (fun s' R' R1 e => ?_)
  subst e
  refine c_K [("self", .ref x)] [("self", some (.ref x))] R1 hroom rfl (fun _ => BindsTo.of_eq rfl) (fun L s' env R he hf hfn => ?_)
  have hm' := hm.tail (p := (L, isNs [("self", some (.ref x))]))
  walk_at "b_go"
  exact ⟨rfl, h _ (Rep.drop1 (by assumption))⟩
theorem sp_elements_added {x dx : Addr} {svs svs' : List SV} {n : Int} {t : Tok} {σ' : Led} {Q : Unit → Shared → Prop} (R : Rep G σ s) (hu : Upd σ x (obj 445 dx svs) (obj 445 dx svs') σ') (hdx : Holds G σ dx isAny) (e : svs.set 4 (.nu n) = svs') (hl : 4 < svs.length) (hroom : A.depth < recursionLimit) (h : ∀ s', Rep G σ' s' → Q () s') :
    wpAny (model G.prog G.w) A (setAttr (.ref x) (Str.ofString "elements_added") (.int n t)) Q E s := by
  refine w_setprop (fset := 193) R (.mem hu.mem) hdx (fun s' R' R1 e => ?_)
  subst e
  refine c_K [("self", .ref x), ("val", .int n t)] [("self", some (.ref x)), ("val", some (.int n t))] R1 hroom rfl (fun _ => BindsTo.of_eq rfl) (fun L s' env R he hf hfn => ?_)
  walk_at "b_go"
  refine si445_els_added (by assumption) (Upd.tail hu) hdx.tail e hl (fun _ _ => ?_)
  walk_at "b_go"
  exact h _ (Rep.drop1 (by assumption))
end
end Bl

end
section
open PySem PySem.W PyProof.Rows PySem.Calls PyProof Bl
set_option linter.unusedVariables false
set_option maxHeartbeats 8000000

local macro_rules | `(tactic| walk_at "b_mem") => `(tactic| (first | assumption | ((repeat (first | exact Bl.Holds.head | assumption | apply Bl.Holds.tail)); all_goals fail) | fail))
local macro_rules | `(tactic| walk_at "b_in") => `(tactic| (first | ((repeat (first | exact List.mem_cons_self | apply List.mem_cons_of_mem)); all_goals fail) | fail))
local macro_rules | `(tactic| walk_at "b_upd") => `(tactic| (first | assumption | ((repeat (first | exact Bl.Upd.head | apply Bl.Upd.tail)); all_goals fail) | fail))
local macro_rules | `(tactic| walk_at "b_put") => `(tactic| (first | ((repeat (first | exact Bl.Put.head | apply Bl.Put.tail)); all_goals fail) | fail))
local macro_rules | `(tactic| walk_at "b_take") => `(tactic| (first | ((repeat (first | exact Bl.Take.head | apply Bl.Take.tail)); all_goals fail) | fail))
local macro_rules | `(tactic| walk_at "b_sel") => `(tactic| repeat (first | exact Bl.Sel.refl | (apply Bl.Sel.pick; focus ((repeat (first | exact Bl.Take.head | apply Bl.Take.tail)); all_goals fail)) | apply Bl.Sel.drop))
local macro_rules | `(tactic| walk_at "b_x1") => `(tactic| (with_reducible show wpAny _ _ (execs [] _) _ _ _; first
    | with_reducible refine wpAny_execs_nil ?_))
local macro_rules | `(tactic| walk_at "b_x1") => `(tactic| (with_reducible show wpAny _ _ (execs (_ :: _) _) _ _ _; first
    | with_reducible refine wpAny_execs_cons ?_))
local macro_rules | `(tactic| walk_at "b_x2") => `(tactic| (with_reducible show wpAny _ _ (exec (.AugAssign (.Subscript _ _ _) _ _ _) _) _ _ _; first
    | with_reducible refine x_AugSub ?_))
local macro_rules | `(tactic| walk_at "b_x2") => `(tactic| (with_reducible show wpAny _ _ (exec (.AugAssign (.Attribute _ _ _) _ _ _) _) _ _ _; first
    | with_reducible refine wpAny_AugAssign_AttributeAny ?_))
local macro_rules | `(tactic| walk_at "b_x2") => `(tactic| (with_reducible show wpAny _ _ (exec (.AugAssign (.Name _ _) _ _ _) _) _ _ _; first
    | with_reducible refine wpAny_AugAssign_Name ?_))
local macro_rules | `(tactic| walk_at "b_x2") => `(tactic| (with_reducible show wpAny _ _ (exec (.While _ _ _ _) _) _ _ _; first
    | with_reducible refine wpAny_While ?_))
local macro_rules | `(tactic| walk_at "b_x2") => `(tactic| (with_reducible show wpAny _ _ (exec (.For _ _ _ _ _) _) _ _ _; first
    | with_reducible refine x_For ?_))
local macro_rules | `(tactic| walk_at "b_x2") => `(tactic| (with_reducible show wpAny _ _ (exec (.Expr _ _) _) _ _ _; first
    | with_reducible refine x_ExprE (by assumption) ?_
    | with_reducible refine x_Expr ?_))
local macro_rules | `(tactic| walk_at "b_x2") => `(tactic| (with_reducible show wpAny _ _ (exec (.If _ _ _ _) _) _ _ _; first
    | with_reducible refine wpAny_If ?_))
local macro_rules | `(tactic| walk_at "b_x2") => `(tactic| (with_reducible show wpAny _ _ (exec (.Return (some _) _) _) _ _ _; first
    | with_reducible refine wpAny_Return_some ?_))
local macro_rules | `(tactic| walk_at "b_x2") => `(tactic| (with_reducible show wpAny _ _ (exec (.Assign [.Subscript _ _ _] _ _) _) _ _ _; first
    | with_reducible refine x_AssignSub ?_))
local macro_rules | `(tactic| walk_at "b_x2") => `(tactic| (with_reducible show wpAny _ _ (exec (.Assign [.Attribute _ _ _] _ _) _) _ _ _; first
    | with_reducible refine x_AssignAttr ?_))
local macro_rules | `(tactic| walk_at "b_x2") => `(tactic| (with_reducible show wpAny _ _ (exec (.Assign [.Name _ _] _ _) _) _ _ _; first
    | with_reducible refine x_AssignName ?_))
local macro_rules | `(tactic| walk_at "b_x3") => `(tactic| (with_reducible show wpAny _ _ (PySem.isTrue (.Call _ _ _ _) _ _) _ _ _; first
    | with_reducible refine x_TPlain ?_))
local macro_rules | `(tactic| walk_at "b_x3") => `(tactic| (with_reducible show wpAny _ _ (PySem.isTrue (.Name _ _) _ _) _ _ _; first
    | with_reducible refine x_TPlain ?_))
local macro_rules | `(tactic| walk_at "b_x3") => `(tactic| (with_reducible show wpAny _ _ (PySem.isTrue (.IfExp _ _ _ _) _ _) _ _ _; first
    | with_reducible refine isTrue_IfExp ?_))
local macro_rules | `(tactic| walk_at "b_x3") => `(tactic| (with_reducible show wpAny _ _ (PySem.isTrue (.Compare _ [_, _] _ _) _ _) _ _ _; first
    | with_reducible refine x_chain2 ?_))
local macro_rules | `(tactic| walk_at "b_x3") => `(tactic| (with_reducible show wpAny _ _ (PySem.isTrue (.Compare _ [_] _ _) _ _) _ _ _; first
    | with_reducible refine x_TCmp ?_))
local macro_rules | `(tactic| walk_at "b_x3") => `(tactic| (with_reducible show wpAny _ _ (PySem.isTrue (.BoolOp .Or [] _) _ _) _ _ _; first
    | with_reducible refine isTrue_or_nil ?_))
local macro_rules | `(tactic| walk_at "b_x3") => `(tactic| (with_reducible show wpAny _ _ (PySem.isTrue (.BoolOp .And [] _) _ _) _ _ _; first
    | with_reducible refine isTrue_and_nil ?_))
local macro_rules | `(tactic| walk_at "b_x3") => `(tactic| (with_reducible show wpAny _ _ (PySem.isTrue (.BoolOp .Or (_ :: _) _) _ _) _ _ _; first
    | with_reducible refine isTrue_or ?_))
local macro_rules | `(tactic| walk_at "b_x3") => `(tactic| (with_reducible show wpAny _ _ (PySem.isTrue (.BoolOp .And (_ :: _) _) _ _) _ _ _; first
    | with_reducible refine isTrue_and ?_))
local macro_rules | `(tactic| walk_at "b_x3") => `(tactic| (with_reducible show wpAny _ _ (PySem.isTrue (.UnaryOp .Not _ _) _ _) _ _ _; first
    | with_reducible refine isTrue_not ?_))
local macro_rules | `(tactic| walk_at "b_x9") => `(tactic| (with_reducible show wpAny _ _ (eval (.Name _ _) _) _ _ _; first
    | with_reducible refine w_local (by assumption) (by assumption) (by first | assumption | ((repeat (first | exact Bl.Holds.head | assumption | apply Bl.Holds.tail)); all_goals fail) | fail) (by first | ((repeat (first | exact List.mem_cons_self | apply List.mem_cons_of_mem)); all_goals fail) | fail) ?_
    | with_reducible refine w_cellname (by assumption) (by assumption) (by first | ((repeat (first | exact List.mem_cons_self | apply List.mem_cons_of_mem)); all_goals fail) | fail) (by first | assumption | ((repeat (first | exact Bl.Holds.head | assumption | apply Bl.Holds.tail)); all_goals fail) | fail) ?_ (by decide +kernel)
    | with_reducible refine w_freename (by assumption) (by assumption) (by first | ((repeat (first | exact List.mem_cons_self | apply List.mem_cons_of_mem)); all_goals fail) | fail) (by first | assumption | ((repeat (first | exact Bl.Holds.head | assumption | apply Bl.Holds.tail)); all_goals fail) | fail) ?_ (by decide +kernel)
    | with_reducible refine w_global (by assumption) (by assumption) (by with_unfolding_all rfl) ?_))
local macro_rules | `(tactic| walk_at "b_x9") => `(tactic| (with_reducible show wpAny _ _ (eval (.Name (Str.ofString "OverflowError") _) _) _ _ _; first
    | with_reducible refine bn_OverflowError (by assumption) (by assumption) ?_))
local macro_rules | `(tactic| walk_at "b_x9") => `(tactic| (with_reducible show wpAny _ _ (eval (.Name (Str.ofString "TypeError") _) _) _ _ _; first
    | with_reducible refine bn_TypeError (by assumption) (by assumption) ?_))
local macro_rules | `(tactic| walk_at "b_x9") => `(tactic| (with_reducible show wpAny _ _ (eval (.Name (Str.ofString "complex") _) _) _ _ _; first
    | with_reducible refine bn_complex (by assumption) (by assumption) ?_))
local macro_rules | `(tactic| walk_at "b_x9") => `(tactic| (with_reducible show wpAny _ _ (eval (.Name (Str.ofString "float") _) _) _ _ _; first
    | with_reducible refine bn_float (by assumption) (by assumption) ?_))
local macro_rules | `(tactic| walk_at "b_x9") => `(tactic| (with_reducible show wpAny _ _ (eval (.Name (Str.ofString "int") _) _) _ _ _; first
    | with_reducible refine bn_int (by assumption) (by assumption) ?_))
local macro_rules | `(tactic| walk_at "b_x9") => `(tactic| (with_reducible show wpAny _ _ (eval (.Name (Str.ofString "ord") _) _) _ _ _; first
    | with_reducible refine bn_ord (by assumption) (by assumption) ?_))
local macro_rules | `(tactic| walk_at "b_x9") => `(tactic| (with_reducible show wpAny _ _ (eval (.Name (Str.ofString "isinstance") _) _) _ _ _; first
    | with_reducible refine bn_isinstance (by assumption) (by assumption) ?_))
local macro_rules | `(tactic| walk_at "b_x9") => `(tactic| (with_reducible show wpAny _ _ (eval (.Name (Str.ofString "enumerate") _) _) _ _ _; first
    | with_reducible refine bn_enumerate (by assumption) (by assumption) ?_))
local macro_rules | `(tactic| walk_at "b_x9") => `(tactic| (with_reducible show wpAny _ _ (eval (.Name (Str.ofString "sum") _) _) _ _ _; first
    | with_reducible refine bn_sum (by assumption) (by assumption) ?_))
local macro_rules | `(tactic| walk_at "b_x9") => `(tactic| (with_reducible show wpAny _ _ (eval (.Name (Str.ofString "max") _) _) _ _ _; first
    | with_reducible refine bn_max (by assumption) (by assumption) ?_))
local macro_rules | `(tactic| walk_at "b_x9") => `(tactic| (with_reducible show wpAny _ _ (eval (.Name (Str.ofString "min") _) _) _ _ _; first
    | with_reducible refine bn_min (by assumption) (by assumption) ?_))
local macro_rules | `(tactic| walk_at "b_x9") => `(tactic| (with_reducible show wpAny _ _ (eval (.Name (Str.ofString "range") _) _) _ _ _; first
    | with_reducible refine bn_range (by assumption) (by assumption) ?_))
local macro_rules | `(tactic| walk_at "b_x9") => `(tactic| (with_reducible show wpAny _ _ (eval (.Name (Str.ofString "_law_joined") _) _) _ _ _; first
    | with_reducible refine gl_law_joined (by assumption) (by assumption) ?_))
local macro_rules | `(tactic| walk_at "b_x9") => `(tactic| (with_reducible show wpAny _ _ (eval (.Name (Str.ofString "_law_try") _) _) _ _ _; first
    | with_reducible refine gl_law_try (by assumption) (by assumption) ?_))
local macro_rules | `(tactic| walk_at "b_x9") => `(tactic| (with_reducible show wpAny _ _ (eval (.Name (Str.ofString "_law_hash") _) _) _ _ _; first
    | with_reducible refine gl_law_hash (by assumption) (by assumption) ?_))
local macro_rules | `(tactic| walk_at "b_x9") => `(tactic| (with_reducible show wpAny _ _ (eval (.Name (Str.ofString "_law_places") _) _) _ _ _; first
    | with_reducible refine gl_law_places (by assumption) (by assumption) ?_))
local macro_rules | `(tactic| walk_at "b_x9") => `(tactic| (with_reducible show wpAny _ _ (eval (.Name (Str.ofString "_law_rounds") _) _) _ _ _; first
    | with_reducible refine gl_law_rounds (by assumption) (by assumption) ?_))
local macro_rules | `(tactic| walk_at "b_x9") => `(tactic| (with_reducible show wpAny _ _ (eval (.Name (Str.ofString "_law_amounts") _) _) _ _ _; first
    | with_reducible refine gl_law_amounts (by assumption) (by assumption) ?_))
local macro_rules | `(tactic| walk_at "b_x9") => `(tactic| (with_reducible show wpAny _ _ (eval (.Name (Str.ofString "verify_not_type_mismatch_countingbloom") _) _) _ _ _; first
    | with_reducible refine gl_verify_not_type_mismatch_countingbloom (by assumption) (by assumption) ?_))
local macro_rules | `(tactic| walk_at "b_x9") => `(tactic| (with_reducible show wpAny _ _ (eval (.Name (Str.ofString "CountingBloomFilter") _) _) _ _ _; first
    | with_reducible refine gl_CountingBloomFilter (by assumption) (by assumption) ?_))
local macro_rules | `(tactic| walk_at "b_x9") => `(tactic| (with_reducible show wpAny _ _ (eval (.Name (Str.ofString "BloomFilter") _) _) _ _ _; first
    | with_reducible refine gl_BloomFilter (by assumption) (by assumption) ?_))
local macro_rules | `(tactic| walk_at "b_x9") => `(tactic| (with_reducible show wpAny _ _ (eval (.Name (Str.ofString "default_fnv_1a") _) _) _ _ _; first
    | with_reducible refine gl_default_fnv_1a (by assumption) (by assumption) ?_))
local macro_rules | `(tactic| walk_at "b_x9") => `(tactic| (with_reducible show wpAny _ _ (eval (.Name (Str.ofString "UINT64_T_MAX") _) _) _ _ _; first
    | with_reducible refine gl_UINT64_T_MAX (by assumption) (by assumption) ?_))
local macro_rules | `(tactic| walk_at "b_x9") => `(tactic| (with_reducible show wpAny _ _ (eval (.Name (Str.ofString "UINT32_T_MAX") _) _) _ _ _; first
    | with_reducible refine gl_UINT32_T_MAX (by assumption) (by assumption) ?_))
local macro_rules | `(tactic| walk_at "b_x9") => `(tactic| (with_reducible show wpAny _ _ (eval (.Name (Str.ofString "SimilarityError") _) _) _ _ _; first
    | with_reducible refine gl_SimilarityError (by assumption) (by assumption) ?_))
local macro_rules | `(tactic| walk_at "b_x4") => `(tactic| (with_reducible show wpAny _ _ (eval (.Dict [some _, some _] [_, _] _) _) _ _ _; first
    | with_reducible refine w_dict2 (by assumption) (fun _ _ _ _ _ => ?_)))
local macro_rules | `(tactic| walk_at "b_x4") => `(tactic| (with_reducible show wpAny _ _ (eval (.BoolOp .Or (_ :: _ :: _) _) _) _ _ _; first
    | with_reducible refine BoolOp_or ?_))
local macro_rules | `(tactic| walk_at "b_x4") => `(tactic| (with_reducible show wpAny _ _ (eval (.BoolOp .And (_ :: _ :: _) _) _) _ _ _; first
    | with_reducible refine BoolOp_and ?_))
local macro_rules | `(tactic| walk_at "b_x4") => `(tactic| (with_reducible show wpAny _ _ (eval (.BoolOp _ [_] _) _) _ _ _; first
    | with_reducible refine BoolOp_one ?_))
local macro_rules | `(tactic| walk_at "b_x4") => `(tactic| (with_reducible show wpAny _ _ (eval (.Call (.Name _ _) _ _ _) _) _ _ _; first
    | with_reducible refine w_Call ?_))
local macro_rules | `(tactic| walk_at "b_x4") => `(tactic| (with_reducible show wpAny _ _ (eval (.Call (.Attribute _ _ _) _ _ _) _) _ _ _; first
    | with_reducible refine w_callMethod ?_))
local macro_rules | `(tactic| walk_at "b_x4") => `(tactic| (with_reducible show wpAny _ _ (eval (.UnaryOp _ _ _) _) _ _ _; first
    | with_reducible refine wpAny_UnaryOp ?_))
local macro_rules | `(tactic| walk_at "b_x4") => `(tactic| (with_reducible show wpAny _ _ (eval (.Compare _ [_] _ _) _) _ _ _; first
    | with_reducible refine x_Cmp ?_))
local macro_rules | `(tactic| walk_at "b_x4") => `(tactic| (with_reducible show wpAny _ _ (eval (.IfExp _ _ _ _) _) _ _ _; first
    | with_reducible refine wpAny_IfExp ?_))
local macro_rules | `(tactic| walk_at "b_x4") => `(tactic| (with_reducible show wpAny _ _ (eval (.Subscript _ _ _) _) _ _ _; first
    | with_reducible refine Subscript_ ?_))
local macro_rules | `(tactic| walk_at "b_x4") => `(tactic| (with_reducible show wpAny _ _ (eval (.Attribute _ _ _) _) _ _ _; first
    | with_reducible refine x_Attr ?_))
local macro_rules | `(tactic| walk_at "b_x4") => `(tactic| (with_reducible show wpAny _ _ (eval (.BinOp _ _ _ _) _) _ _ _; first
    | with_reducible refine wpAny_BinOp ?_))
local macro_rules | `(tactic| walk_at "b_x4") => `(tactic| (with_reducible show wpAny _ _ (eval (.Constant (.bool _) _ _) _) _ _ _; first
    | with_reducible refine wpAny_Constant_bool ?_))
local macro_rules | `(tactic| walk_at "b_x4") => `(tactic| (with_reducible show wpAny _ _ (eval (.Constant .none _ _) _) _ _ _; first
    | with_reducible refine wpAny_Constant_none ?_))
local macro_rules | `(tactic| walk_at "b_x4") => `(tactic| (with_reducible show wpAny _ _ (eval (.Constant (.str _) _ _) _) _ _ _; first
    | with_reducible refine w_str (by assumption) (fun _ _ _ => ?_)))
local macro_rules | `(tactic| walk_at "b_x4") => `(tactic| (with_reducible show wpAny _ _ (eval (.Constant (.int _) _ _) _) _ _ _; first
    | with_reducible refine w_int (by assumption) (fun _ _ _ => ?_)))
local macro_rules | `(tactic| walk_at "b_x8") => `(tactic| (with_reducible show wpAny _ _ (compareOp .Is (.bool _) (.bool _)) _ _ _; first
    | with_reducible refine is_bool ?_))
local macro_rules | `(tactic| walk_at "b_x8") => `(tactic| (with_reducible show wpAny _ _ (compareOp .IsNot _ .none) _ _ _; first
    | with_reducible refine isnot_none_gen ?_))
local macro_rules | `(tactic| walk_at "b_x8") => `(tactic| (with_reducible show wpAny _ _ (compareOp .Is _ .none) _ _ _; first
    | with_reducible refine is_none_gen ?_))
local macro_rules | `(tactic| walk_at "b_x8") => `(tactic| (with_reducible show wpAny _ _ (compareOp .NotEq (.int _ _) (.int _ _)) _ _ _; first
    | with_reducible refine ne_int ?_))
local macro_rules | `(tactic| walk_at "b_x8") => `(tactic| (with_reducible show wpAny _ _ (compareOp .Eq (.int _ _) (.int _ _)) _ _ _; first
    | with_reducible refine eq_int ?_))
local macro_rules | `(tactic| walk_at "b_x8") => `(tactic| (with_reducible show wpAny _ _ (compareOp .GtE (.int _ _) (.int _ _)) _ _ _; first
    | with_reducible refine ge_int ?_))
local macro_rules | `(tactic| walk_at "b_x8") => `(tactic| (with_reducible show wpAny _ _ (compareOp .LtE (.int _ _) (.int _ _)) _ _ _; first
    | with_reducible refine le_int ?_))
local macro_rules | `(tactic| walk_at "b_x8") => `(tactic| (with_reducible show wpAny _ _ (compareOp .Gt (.int _ _) (.int _ _)) _ _ _; first
    | with_reducible refine gt_int ?_))
local macro_rules | `(tactic| walk_at "b_x8") => `(tactic| (with_reducible show wpAny _ _ (compareOp .Lt (.int _ _) (.int _ _)) _ _ _; first
    | with_reducible refine lt_int ?_))
local macro_rules | `(tactic| walk_at "b_x5") => `(tactic| (with_reducible show wpAny _ _ (getAttr _ (Str.ofString "hash_function") _) _ _ _; first
    | with_reducible refine gp_hash_function (by assumption) (by first | assumption | ((repeat (first | exact Bl.Holds.head | assumption | apply Bl.Holds.tail)); all_goals fail) | fail) (by first | assumption | ((repeat (first | exact Bl.Holds.head | assumption | apply Bl.Holds.tail)); all_goals fail) | fail) (by first | assumption | with_unfolding_all rfl) (by first | assumption | exact Bl.roomD (by assumption) (by decide) | exact Bl.roomDk (by assumption) (by decide) | exact Bl.room0 (by assumption)) (fun _ _ => ?_)))
local macro_rules | `(tactic| walk_at "b_x5") => `(tactic| (with_reducible show wpAny _ _ (getAttr _ (Str.ofString "bloom") _) _ _ _; first
    | with_reducible refine gp_bloom (by assumption) (by first | assumption | ((repeat (first | exact Bl.Holds.head | assumption | apply Bl.Holds.tail)); all_goals fail) | fail) (by first | assumption | ((repeat (first | exact Bl.Holds.head | assumption | apply Bl.Holds.tail)); all_goals fail) | fail) (by first | assumption | with_unfolding_all rfl) (by first | assumption | exact Bl.roomD (by assumption) (by decide) | exact Bl.roomDk (by assumption) (by decide) | exact Bl.room0 (by assumption)) (fun _ _ => ?_)))
local macro_rules | `(tactic| walk_at "b_x5") => `(tactic| (with_reducible show wpAny _ _ (getAttr _ (Str.ofString "bloom_length") _) _ _ _; first
    | with_reducible refine gp_bloom_length (by assumption) (by first | assumption | ((repeat (first | exact Bl.Holds.head | assumption | apply Bl.Holds.tail)); all_goals fail) | fail) (by first | assumption | ((repeat (first | exact Bl.Holds.head | assumption | apply Bl.Holds.tail)); all_goals fail) | fail) (by first | assumption | with_unfolding_all rfl) (by first | assumption | exact Bl.roomD (by assumption) (by decide) | exact Bl.roomDk (by assumption) (by decide) | exact Bl.room0 (by assumption)) (fun _ _ _ => ?_)))
local macro_rules | `(tactic| walk_at "b_x5") => `(tactic| (with_reducible show wpAny _ _ (getAttr _ (Str.ofString "false_positive_rate") _) _ _ _; first
    | with_reducible refine gp_false_positive_rate (by assumption) (by first | assumption | ((repeat (first | exact Bl.Holds.head | assumption | apply Bl.Holds.tail)); all_goals fail) | fail) (by first | assumption | ((repeat (first | exact Bl.Holds.head | assumption | apply Bl.Holds.tail)); all_goals fail) | fail) (by first | assumption | with_unfolding_all rfl) (by first | assumption | exact Bl.roomD (by assumption) (by decide) | exact Bl.roomDk (by assumption) (by decide) | exact Bl.room0 (by assumption)) (fun _ _ _ => ?_)))
local macro_rules | `(tactic| walk_at "b_x5") => `(tactic| (with_reducible show wpAny _ _ (getAttr _ (Str.ofString "estimated_elements") _) _ _ _; first
    | with_reducible refine gp_estimated_elements (by assumption) (by first | assumption | ((repeat (first | exact Bl.Holds.head | assumption | apply Bl.Holds.tail)); all_goals fail) | fail) (by first | assumption | ((repeat (first | exact Bl.Holds.head | assumption | apply Bl.Holds.tail)); all_goals fail) | fail) (by first | assumption | with_unfolding_all rfl) (by first | assumption | exact Bl.roomD (by assumption) (by decide) | exact Bl.roomDk (by assumption) (by decide) | exact Bl.room0 (by assumption)) (fun _ _ _ => ?_)))
local macro_rules | `(tactic| walk_at "b_x5") => `(tactic| (with_reducible show wpAny _ _ (getAttr _ (Str.ofString "elements_added") _) _ _ _; first
    | with_reducible refine gp_elements_added (by assumption) (by first | assumption | ((repeat (first | exact Bl.Holds.head | assumption | apply Bl.Holds.tail)); all_goals fail) | fail) (by first | assumption | ((repeat (first | exact Bl.Holds.head | assumption | apply Bl.Holds.tail)); all_goals fail) | fail) (by first | assumption | with_unfolding_all rfl) (by first | assumption | exact Bl.roomD (by assumption) (by decide) | exact Bl.roomDk (by assumption) (by decide) | exact Bl.room0 (by assumption)) (fun _ _ _ => ?_)))
local macro_rules | `(tactic| walk_at "b_x5") => `(tactic| (with_reducible show wpAny _ _ (getAttr _ (Str.ofString "number_bits") _) _ _ _; first
    | with_reducible refine gp_number_bits (by assumption) (by first | assumption | ((repeat (first | exact Bl.Holds.head | assumption | apply Bl.Holds.tail)); all_goals fail) | fail) (by first | assumption | ((repeat (first | exact Bl.Holds.head | assumption | apply Bl.Holds.tail)); all_goals fail) | fail) (by first | assumption | with_unfolding_all rfl) (by first | assumption | exact Bl.roomD (by assumption) (by decide) | exact Bl.roomDk (by assumption) (by decide) | exact Bl.room0 (by assumption)) (fun _ _ _ => ?_)))
local macro_rules | `(tactic| walk_at "b_x5") => `(tactic| (with_reducible show wpAny _ _ (getAttr _ (Str.ofString "number_hashes") _) _ _ _; first
    | with_reducible refine gp_number_hashes (by assumption) (by first | assumption | ((repeat (first | exact Bl.Holds.head | assumption | apply Bl.Holds.tail)); all_goals fail) | fail) (by first | assumption | ((repeat (first | exact Bl.Holds.head | assumption | apply Bl.Holds.tail)); all_goals fail) | fail) (by first | assumption | with_unfolding_all rfl) (by first | assumption | exact Bl.roomD (by assumption) (by decide) | exact Bl.roomDk (by assumption) (by decide) | exact Bl.room0 (by assumption)) (fun _ _ _ => ?_)))
local macro_rules | `(tactic| walk_at "b_x5") => `(tactic| (with_reducible show wpAny _ _ (getAttr _ (Str.ofString "_typecode") _) _ _ _; first
    | with_reducible refine gs445_typecode (by assumption) (by first | assumption | ((repeat (first | exact Bl.Holds.head | assumption | apply Bl.Holds.tail)); all_goals fail) | fail) (by first | assumption | ((repeat (first | exact Bl.Holds.head | assumption | apply Bl.Holds.tail)); all_goals fail) | fail) (by with_unfolding_all rfl) (fun _ _ _ => ?_)))
local macro_rules | `(tactic| walk_at "b_x5") => `(tactic| (with_reducible show wpAny _ _ (getAttr _ (Str.ofString "_number_hashes") _) _ _ _; first
    | with_reducible refine gi445_number_hashes (by assumption) (by first | assumption | ((repeat (first | exact Bl.Holds.head | assumption | apply Bl.Holds.tail)); all_goals fail) | fail) (by first | assumption | ((repeat (first | exact Bl.Holds.head | assumption | apply Bl.Holds.tail)); all_goals fail) | fail) (by first | assumption | with_unfolding_all rfl) (fun _ _ _ => ?_)))
local macro_rules | `(tactic| walk_at "b_x5") => `(tactic| (with_reducible show wpAny _ _ (getAttr _ (Str.ofString "_num_bits") _) _ _ _; first
    | with_reducible refine gi445_num_bits (by assumption) (by first | assumption | ((repeat (first | exact Bl.Holds.head | assumption | apply Bl.Holds.tail)); all_goals fail) | fail) (by first | assumption | ((repeat (first | exact Bl.Holds.head | assumption | apply Bl.Holds.tail)); all_goals fail) | fail) (by first | assumption | with_unfolding_all rfl) (fun _ _ _ => ?_)))
local macro_rules | `(tactic| walk_at "b_x5") => `(tactic| (with_reducible show wpAny _ _ (getAttr _ (Str.ofString "_hash_func") _) _ _ _; first
    | with_reducible refine gv445_hash_func (by assumption) (by first | assumption | ((repeat (first | exact Bl.Holds.head | assumption | apply Bl.Holds.tail)); all_goals fail) | fail) (by first | assumption | ((repeat (first | exact Bl.Holds.head | assumption | apply Bl.Holds.tail)); all_goals fail) | fail) (by first | assumption | with_unfolding_all rfl) (fun _ _ => ?_)))
local macro_rules | `(tactic| walk_at "b_x5") => `(tactic| (with_reducible show wpAny _ _ (getAttr _ (Str.ofString "_fpr") _) _ _ _; first
    | with_reducible refine gi445_fpr (by assumption) (by first | assumption | ((repeat (first | exact Bl.Holds.head | assumption | apply Bl.Holds.tail)); all_goals fail) | fail) (by first | assumption | ((repeat (first | exact Bl.Holds.head | assumption | apply Bl.Holds.tail)); all_goals fail) | fail) (by first | assumption | with_unfolding_all rfl) (fun _ _ _ => ?_)))
local macro_rules | `(tactic| walk_at "b_x5") => `(tactic| (with_reducible show wpAny _ _ (getAttr _ (Str.ofString "_est_elements") _) _ _ _; first
    | with_reducible refine gi445_est_elements (by assumption) (by first | assumption | ((repeat (first | exact Bl.Holds.head | assumption | apply Bl.Holds.tail)); all_goals fail) | fail) (by first | assumption | ((repeat (first | exact Bl.Holds.head | assumption | apply Bl.Holds.tail)); all_goals fail) | fail) (by first | assumption | with_unfolding_all rfl) (fun _ _ _ => ?_)))
local macro_rules | `(tactic| walk_at "b_x5") => `(tactic| (with_reducible show wpAny _ _ (getAttr _ (Str.ofString "_els_added") _) _ _ _; first
    | with_reducible refine gi445_els_added (by assumption) (by first | assumption | ((repeat (first | exact Bl.Holds.head | assumption | apply Bl.Holds.tail)); all_goals fail) | fail) (by first | assumption | ((repeat (first | exact Bl.Holds.head | assumption | apply Bl.Holds.tail)); all_goals fail) | fail) (by first | assumption | with_unfolding_all rfl) (fun _ _ _ => ?_)))
local macro_rules | `(tactic| walk_at "b_x5") => `(tactic| (with_reducible show wpAny _ _ (getAttr _ (Str.ofString "_bloom_length") _) _ _ _; first
    | with_reducible refine gi445_bloom_length (by assumption) (by first | assumption | ((repeat (first | exact Bl.Holds.head | assumption | apply Bl.Holds.tail)); all_goals fail) | fail) (by first | assumption | ((repeat (first | exact Bl.Holds.head | assumption | apply Bl.Holds.tail)); all_goals fail) | fail) (by first | assumption | with_unfolding_all rfl) (fun _ _ _ => ?_)
    | with_reducible refine gi332_bloom_length (by assumption) (by first | assumption | ((repeat (first | exact Bl.Holds.head | assumption | apply Bl.Holds.tail)); all_goals fail) | fail) (by first | assumption | ((repeat (first | exact Bl.Holds.head | assumption | apply Bl.Holds.tail)); all_goals fail) | fail) (by first | assumption | with_unfolding_all rfl) (fun _ _ _ => ?_)))
local macro_rules | `(tactic| walk_at "b_x5") => `(tactic| (with_reducible show wpAny _ _ (getAttr _ (Str.ofString "_bloom") _) _ _ _; first
    | with_reducible refine gv445_bloom (by assumption) (by first | assumption | ((repeat (first | exact Bl.Holds.head | assumption | apply Bl.Holds.tail)); all_goals fail) | fail) (by first | assumption | ((repeat (first | exact Bl.Holds.head | assumption | apply Bl.Holds.tail)); all_goals fail) | fail) (by first | assumption | with_unfolding_all rfl) (fun _ _ => ?_)))
local macro_rules | `(tactic| walk_at "b_x6") => `(tactic| (with_reducible show wpAny _ _ (setAttr _ (Str.ofString "elements_added") (.int _ _)) _ _ _; first
    | with_reducible refine sp_elements_added (by assumption) (by first | assumption | ((repeat (first | exact Bl.Upd.head | apply Bl.Upd.tail)); all_goals fail) | fail) (by first | assumption | ((repeat (first | exact Bl.Holds.head | assumption | apply Bl.Holds.tail)); all_goals fail) | fail) (by with_unfolding_all rfl) (by with_unfolding_all exact Nat.le_of_ble_eq_true rfl) (by first | assumption | exact Bl.roomD (by assumption) (by decide) | exact Bl.roomDk (by assumption) (by decide) | exact Bl.room0 (by assumption)) (fun _ _ => ?_)))
local macro_rules | `(tactic| walk_at "b_x6") => `(tactic| (with_reducible show wpAny _ _ (setAttr _ (Str.ofString "_filepath") _) _ _ _; first
    | with_reducible refine sv445_filepath (by assumption) (by first | assumption | ((repeat (first | exact Bl.Upd.head | apply Bl.Upd.tail)); all_goals fail) | fail) (by first | assumption | ((repeat (first | exact Bl.Holds.head | assumption | apply Bl.Holds.tail)); all_goals fail) | fail) (by with_unfolding_all rfl) (by with_unfolding_all exact Nat.le_of_ble_eq_true rfl) (fun _ _ => ?_)))
local macro_rules | `(tactic| walk_at "b_x6") => `(tactic| (with_reducible show wpAny _ _ (setAttr _ (Str.ofString "_typecode") (.str _ _)) _ _ _; first
    | with_reducible refine ss445_typecode (by assumption) (by first | assumption | ((repeat (first | exact Bl.Upd.head | apply Bl.Upd.tail)); all_goals fail) | fail) (by first | assumption | ((repeat (first | exact Bl.Holds.head | assumption | apply Bl.Holds.tail)); all_goals fail) | fail) (by with_unfolding_all rfl) (by with_unfolding_all exact Nat.le_of_ble_eq_true rfl) (fun _ _ => ?_)
    | with_reducible refine ss332_typecode (by assumption) (by first | assumption | ((repeat (first | exact Bl.Upd.head | apply Bl.Upd.tail)); all_goals fail) | fail) (by first | assumption | ((repeat (first | exact Bl.Holds.head | assumption | apply Bl.Holds.tail)); all_goals fail) | fail) (by with_unfolding_all rfl) (by with_unfolding_all exact Nat.le_of_ble_eq_true rfl) (fun _ _ => ?_)))
local macro_rules | `(tactic| walk_at "b_x6") => `(tactic| (with_reducible show wpAny _ _ (setAttr _ (Str.ofString "_type") (.str _ _)) _ _ _; first
    | with_reducible refine ss445_type (by assumption) (by first | assumption | ((repeat (first | exact Bl.Upd.head | apply Bl.Upd.tail)); all_goals fail) | fail) (by first | assumption | ((repeat (first | exact Bl.Holds.head | assumption | apply Bl.Holds.tail)); all_goals fail) | fail) (by with_unfolding_all rfl) (by with_unfolding_all exact Nat.le_of_ble_eq_true rfl) (fun _ _ => ?_)
    | with_reducible refine ss332_type (by assumption) (by first | assumption | ((repeat (first | exact Bl.Upd.head | apply Bl.Upd.tail)); all_goals fail) | fail) (by first | assumption | ((repeat (first | exact Bl.Holds.head | assumption | apply Bl.Holds.tail)); all_goals fail) | fail) (by with_unfolding_all rfl) (by with_unfolding_all exact Nat.le_of_ble_eq_true rfl) (fun _ _ => ?_)))
local macro_rules | `(tactic| walk_at "b_x6") => `(tactic| (with_reducible show wpAny _ _ (setAttr _ (Str.ofString "_on_disk") _) _ _ _; first
    | with_reducible refine sv445_on_disk (by assumption) (by first | assumption | ((repeat (first | exact Bl.Upd.head | apply Bl.Upd.tail)); all_goals fail) | fail) (by first | assumption | ((repeat (first | exact Bl.Holds.head | assumption | apply Bl.Holds.tail)); all_goals fail) | fail) (by with_unfolding_all rfl) (by with_unfolding_all exact Nat.le_of_ble_eq_true rfl) (fun _ _ => ?_)
    | with_reducible refine sv332_on_disk (by assumption) (by first | assumption | ((repeat (first | exact Bl.Upd.head | apply Bl.Upd.tail)); all_goals fail) | fail) (by first | assumption | ((repeat (first | exact Bl.Holds.head | assumption | apply Bl.Holds.tail)); all_goals fail) | fail) (by with_unfolding_all rfl) (by with_unfolding_all exact Nat.le_of_ble_eq_true rfl) (fun _ _ => ?_)))
local macro_rules | `(tactic| walk_at "b_x6") => `(tactic| (with_reducible show wpAny _ _ (setAttr _ (Str.ofString "_number_hashes") (.int _ _)) _ _ _; first
    | with_reducible refine si445_number_hashes (by assumption) (by first | assumption | ((repeat (first | exact Bl.Upd.head | apply Bl.Upd.tail)); all_goals fail) | fail) (by first | assumption | ((repeat (first | exact Bl.Holds.head | assumption | apply Bl.Holds.tail)); all_goals fail) | fail) (by with_unfolding_all rfl) (by with_unfolding_all exact Nat.le_of_ble_eq_true rfl) (fun _ _ => ?_)
    | with_reducible refine si332_number_hashes (by assumption) (by first | assumption | ((repeat (first | exact Bl.Upd.head | apply Bl.Upd.tail)); all_goals fail) | fail) (by first | assumption | ((repeat (first | exact Bl.Holds.head | assumption | apply Bl.Holds.tail)); all_goals fail) | fail) (by with_unfolding_all rfl) (by with_unfolding_all exact Nat.le_of_ble_eq_true rfl) (fun _ _ => ?_)))
local macro_rules | `(tactic| walk_at "b_x6") => `(tactic| (with_reducible show wpAny _ _ (setAttr _ (Str.ofString "_num_bits") (.int _ _)) _ _ _; first
    | with_reducible refine si445_num_bits (by assumption) (by first | assumption | ((repeat (first | exact Bl.Upd.head | apply Bl.Upd.tail)); all_goals fail) | fail) (by first | assumption | ((repeat (first | exact Bl.Holds.head | assumption | apply Bl.Holds.tail)); all_goals fail) | fail) (by with_unfolding_all rfl) (by with_unfolding_all exact Nat.le_of_ble_eq_true rfl) (fun _ _ => ?_)
    | with_reducible refine si332_num_bits (by assumption) (by first | assumption | ((repeat (first | exact Bl.Upd.head | apply Bl.Upd.tail)); all_goals fail) | fail) (by first | assumption | ((repeat (first | exact Bl.Holds.head | assumption | apply Bl.Holds.tail)); all_goals fail) | fail) (by with_unfolding_all rfl) (by with_unfolding_all exact Nat.le_of_ble_eq_true rfl) (fun _ _ => ?_)))
local macro_rules | `(tactic| walk_at "b_x6") => `(tactic| (with_reducible show wpAny _ _ (setAttr _ (Str.ofString "_hash_func") _) _ _ _; first
    | with_reducible refine sv445_hash_func (by assumption) (by first | assumption | ((repeat (first | exact Bl.Upd.head | apply Bl.Upd.tail)); all_goals fail) | fail) (by first | assumption | ((repeat (first | exact Bl.Holds.head | assumption | apply Bl.Holds.tail)); all_goals fail) | fail) (by with_unfolding_all rfl) (by with_unfolding_all exact Nat.le_of_ble_eq_true rfl) (fun _ _ => ?_)
    | with_reducible refine sv332_hash_func (by assumption) (by first | assumption | ((repeat (first | exact Bl.Upd.head | apply Bl.Upd.tail)); all_goals fail) | fail) (by first | assumption | ((repeat (first | exact Bl.Holds.head | assumption | apply Bl.Holds.tail)); all_goals fail) | fail) (by with_unfolding_all rfl) (by with_unfolding_all exact Nat.le_of_ble_eq_true rfl) (fun _ _ => ?_)))
local macro_rules | `(tactic| walk_at "b_x6") => `(tactic| (with_reducible show wpAny _ _ (setAttr _ (Str.ofString "_fpr") (.int _ _)) _ _ _; first
    | with_reducible refine si445_fpr (by assumption) (by first | assumption | ((repeat (first | exact Bl.Upd.head | apply Bl.Upd.tail)); all_goals fail) | fail) (by first | assumption | ((repeat (first | exact Bl.Holds.head | assumption | apply Bl.Holds.tail)); all_goals fail) | fail) (by with_unfolding_all rfl) (by with_unfolding_all exact Nat.le_of_ble_eq_true rfl) (fun _ _ => ?_)
    | with_reducible refine si332_fpr (by assumption) (by first | assumption | ((repeat (first | exact Bl.Upd.head | apply Bl.Upd.tail)); all_goals fail) | fail) (by first | assumption | ((repeat (first | exact Bl.Holds.head | assumption | apply Bl.Holds.tail)); all_goals fail) | fail) (by with_unfolding_all rfl) (by with_unfolding_all exact Nat.le_of_ble_eq_true rfl) (fun _ _ => ?_)))
local macro_rules | `(tactic| walk_at "b_x6") => `(tactic| (with_reducible show wpAny _ _ (setAttr _ (Str.ofString "_est_elements") (.int _ _)) _ _ _; first
    | with_reducible refine si445_est_elements (by assumption) (by first | assumption | ((repeat (first | exact Bl.Upd.head | apply Bl.Upd.tail)); all_goals fail) | fail) (by first | assumption | ((repeat (first | exact Bl.Holds.head | assumption | apply Bl.Holds.tail)); all_goals fail) | fail) (by with_unfolding_all rfl) (by with_unfolding_all exact Nat.le_of_ble_eq_true rfl) (fun _ _ => ?_)
    | with_reducible refine si332_est_elements (by assumption) (by first | assumption | ((repeat (first | exact Bl.Upd.head | apply Bl.Upd.tail)); all_goals fail) | fail) (by first | assumption | ((repeat (first | exact Bl.Holds.head | assumption | apply Bl.Holds.tail)); all_goals fail) | fail) (by with_unfolding_all rfl) (by with_unfolding_all exact Nat.le_of_ble_eq_true rfl) (fun _ _ => ?_)))
local macro_rules | `(tactic| walk_at "b_x6") => `(tactic| (with_reducible show wpAny _ _ (setAttr _ (Str.ofString "_els_added") (.int _ _)) _ _ _; first
    | with_reducible refine si445_els_added (by assumption) (by first | assumption | ((repeat (first | exact Bl.Upd.head | apply Bl.Upd.tail)); all_goals fail) | fail) (by first | assumption | ((repeat (first | exact Bl.Holds.head | assumption | apply Bl.Holds.tail)); all_goals fail) | fail) (by with_unfolding_all rfl) (by with_unfolding_all exact Nat.le_of_ble_eq_true rfl) (fun _ _ => ?_)
    | with_reducible refine si332_els_added (by assumption) (by first | assumption | ((repeat (first | exact Bl.Upd.head | apply Bl.Upd.tail)); all_goals fail) | fail) (by first | assumption | ((repeat (first | exact Bl.Holds.head | assumption | apply Bl.Holds.tail)); all_goals fail) | fail) (by with_unfolding_all rfl) (by with_unfolding_all exact Nat.le_of_ble_eq_true rfl) (fun _ _ => ?_)))
local macro_rules | `(tactic| walk_at "b_x6") => `(tactic| (with_reducible show wpAny _ _ (setAttr _ (Str.ofString "_bloom_length") (.int _ _)) _ _ _; first
    | with_reducible refine si445_bloom_length (by assumption) (by first | assumption | ((repeat (first | exact Bl.Upd.head | apply Bl.Upd.tail)); all_goals fail) | fail) (by first | assumption | ((repeat (first | exact Bl.Holds.head | assumption | apply Bl.Holds.tail)); all_goals fail) | fail) (by with_unfolding_all rfl) (by with_unfolding_all exact Nat.le_of_ble_eq_true rfl) (fun _ _ => ?_)
    | with_reducible refine si332_bloom_length (by assumption) (by first | assumption | ((repeat (first | exact Bl.Upd.head | apply Bl.Upd.tail)); all_goals fail) | fail) (by first | assumption | ((repeat (first | exact Bl.Holds.head | assumption | apply Bl.Holds.tail)); all_goals fail) | fail) (by with_unfolding_all rfl) (by with_unfolding_all exact Nat.le_of_ble_eq_true rfl) (fun _ _ => ?_)))
local macro_rules | `(tactic| walk_at "b_x6") => `(tactic| (with_reducible show wpAny _ _ (setAttr _ (Str.ofString "_bloom") _) _ _ _; first
    | with_reducible refine sv445_bloom (by assumption) (by first | assumption | ((repeat (first | exact Bl.Upd.head | apply Bl.Upd.tail)); all_goals fail) | fail) (by first | assumption | ((repeat (first | exact Bl.Holds.head | assumption | apply Bl.Holds.tail)); all_goals fail) | fail) (by with_unfolding_all rfl) (by with_unfolding_all exact Nat.le_of_ble_eq_true rfl) (fun _ _ => ?_)
    | with_reducible refine sv332_bloom (by assumption) (by first | assumption | ((repeat (first | exact Bl.Upd.head | apply Bl.Upd.tail)); all_goals fail) | fail) (by first | assumption | ((repeat (first | exact Bl.Holds.head | assumption | apply Bl.Holds.tail)); all_goals fail) | fail) (by with_unfolding_all rfl) (by with_unfolding_all exact Nat.le_of_ble_eq_true rfl) (fun _ _ => ?_)))
local macro_rules | `(tactic| walk_at "b_x7") => `(tactic| (with_reducible show wpAny _ _ (getMethod _ (Str.ofString "_verify_bloom_similarity") _) _ _ _; first
    | with_reducible refine m445_verify_bloom_similarity (by assumption) (by first | assumption | ((repeat (first | exact Bl.Holds.head | assumption | apply Bl.Holds.tail)); all_goals fail) | fail) (by first | assumption | ((repeat (first | exact Bl.Holds.head | assumption | apply Bl.Holds.tail)); all_goals fail) | fail) ?_))
local macro_rules | `(tactic| walk_at "b_x7") => `(tactic| (with_reducible show wpAny _ _ (getMethod _ (Str.ofString "_cnt_number_bits_set") _) _ _ _; first
    | with_reducible refine m445_cnt_number_bits_set (by assumption) (by first | assumption | ((repeat (first | exact Bl.Holds.head | assumption | apply Bl.Holds.tail)); all_goals fail) | fail) (by first | assumption | ((repeat (first | exact Bl.Holds.head | assumption | apply Bl.Holds.tail)); all_goals fail) | fail) ?_))
local macro_rules | `(tactic| walk_at "b_x7") => `(tactic| (with_reducible show wpAny _ _ (getMethod _ (Str.ofString "estimate_elements") _) _ _ _; first
    | with_reducible refine m445_estimate_elements (by assumption) (by first | assumption | ((repeat (first | exact Bl.Holds.head | assumption | apply Bl.Holds.tail)); all_goals fail) | fail) (by first | assumption | ((repeat (first | exact Bl.Holds.head | assumption | apply Bl.Holds.tail)); all_goals fail) | fail) ?_))
local macro_rules | `(tactic| walk_at "b_x7") => `(tactic| (with_reducible show wpAny _ _ (getMethod _ (Str.ofString "intersection") _) _ _ _; first
    | with_reducible refine m445_intersection (by assumption) (by first | assumption | ((repeat (first | exact Bl.Holds.head | assumption | apply Bl.Holds.tail)); all_goals fail) | fail) (by first | assumption | ((repeat (first | exact Bl.Holds.head | assumption | apply Bl.Holds.tail)); all_goals fail) | fail) ?_))
local macro_rules | `(tactic| walk_at "b_x7") => `(tactic| (with_reducible show wpAny _ _ (getMethod _ (Str.ofString "union") _) _ _ _; first
    | with_reducible refine m445_union (by assumption) (by first | assumption | ((repeat (first | exact Bl.Holds.head | assumption | apply Bl.Holds.tail)); all_goals fail) | fail) (by first | assumption | ((repeat (first | exact Bl.Holds.head | assumption | apply Bl.Holds.tail)); all_goals fail) | fail) ?_))
local macro_rules | `(tactic| walk_at "b_x7") => `(tactic| (with_reducible show wpAny _ _ (getMethod _ (Str.ofString "clear") _) _ _ _; first
    | with_reducible refine m445_clear (by assumption) (by first | assumption | ((repeat (first | exact Bl.Holds.head | assumption | apply Bl.Holds.tail)); all_goals fail) | fail) (by first | assumption | ((repeat (first | exact Bl.Holds.head | assumption | apply Bl.Holds.tail)); all_goals fail) | fail) ?_))
local macro_rules | `(tactic| walk_at "b_x7") => `(tactic| (with_reducible show wpAny _ _ (getMethod _ (Str.ofString "remove") _) _ _ _; first
    | with_reducible refine m445_remove (by assumption) (by first | assumption | ((repeat (first | exact Bl.Holds.head | assumption | apply Bl.Holds.tail)); all_goals fail) | fail) (by first | assumption | ((repeat (first | exact Bl.Holds.head | assumption | apply Bl.Holds.tail)); all_goals fail) | fail) ?_))
local macro_rules | `(tactic| walk_at "b_x7") => `(tactic| (with_reducible show wpAny _ _ (getMethod _ (Str.ofString "check") _) _ _ _; first
    | with_reducible refine m445_check (by assumption) (by first | assumption | ((repeat (first | exact Bl.Holds.head | assumption | apply Bl.Holds.tail)); all_goals fail) | fail) (by first | assumption | ((repeat (first | exact Bl.Holds.head | assumption | apply Bl.Holds.tail)); all_goals fail) | fail) ?_))
local macro_rules | `(tactic| walk_at "b_x7") => `(tactic| (with_reducible show wpAny _ _ (getMethod _ (Str.ofString "add") _) _ _ _; first
    | with_reducible refine m445_add (by assumption) (by first | assumption | ((repeat (first | exact Bl.Holds.head | assumption | apply Bl.Holds.tail)); all_goals fail) | fail) (by first | assumption | ((repeat (first | exact Bl.Holds.head | assumption | apply Bl.Holds.tail)); all_goals fail) | fail) ?_))
local macro_rules | `(tactic| walk_at "b_x7") => `(tactic| (with_reducible show wpAny _ _ (getMethod _ (Str.ofString "remove_alt") _) _ _ _; first
    | with_reducible refine m445_remove_alt (by assumption) (by first | assumption | ((repeat (first | exact Bl.Holds.head | assumption | apply Bl.Holds.tail)); all_goals fail) | fail) (by first | assumption | ((repeat (first | exact Bl.Holds.head | assumption | apply Bl.Holds.tail)); all_goals fail) | fail) ?_))
local macro_rules | `(tactic| walk_at "b_x7") => `(tactic| (with_reducible show wpAny _ _ (getMethod _ (Str.ofString "check_alt") _) _ _ _; first
    | with_reducible refine m445_check_alt (by assumption) (by first | assumption | ((repeat (first | exact Bl.Holds.head | assumption | apply Bl.Holds.tail)); all_goals fail) | fail) (by first | assumption | ((repeat (first | exact Bl.Holds.head | assumption | apply Bl.Holds.tail)); all_goals fail) | fail) ?_))
local macro_rules | `(tactic| walk_at "b_x7") => `(tactic| (with_reducible show wpAny _ _ (getMethod _ (Str.ofString "add_alt") _) _ _ _; first
    | with_reducible refine m445_add_alt (by assumption) (by first | assumption | ((repeat (first | exact Bl.Holds.head | assumption | apply Bl.Holds.tail)); all_goals fail) | fail) (by first | assumption | ((repeat (first | exact Bl.Holds.head | assumption | apply Bl.Holds.tail)); all_goals fail) | fail) ?_))
local macro_rules | `(tactic| walk_at "b_x7") => `(tactic| (with_reducible show wpAny _ _ (getMethod _ (Str.ofString "hashes") _) _ _ _; first
    | with_reducible refine m445_hashes (by assumption) (by first | assumption | ((repeat (first | exact Bl.Holds.head | assumption | apply Bl.Holds.tail)); all_goals fail) | fail) (by first | assumption | ((repeat (first | exact Bl.Holds.head | assumption | apply Bl.Holds.tail)); all_goals fail) | fail) ?_))
local macro_rules | `(tactic| walk_at "b_x7") => `(tactic| (with_reducible show wpAny _ _ (getMethod _ (Str.ofString "_set_values") _) _ _ _; first
    | with_reducible refine m445_set_values (by assumption) (by first | assumption | ((repeat (first | exact Bl.Holds.head | assumption | apply Bl.Holds.tail)); all_goals fail) | fail) (by first | assumption | ((repeat (first | exact Bl.Holds.head | assumption | apply Bl.Holds.tail)); all_goals fail) | fail) ?_
    | with_reducible refine m332_set_values (by assumption) (by first | assumption | ((repeat (first | exact Bl.Holds.head | assumption | apply Bl.Holds.tail)); all_goals fail) | fail) (by first | assumption | ((repeat (first | exact Bl.Holds.head | assumption | apply Bl.Holds.tail)); all_goals fail) | fail) ?_))
local macro_rules | `(tactic| walk_at "b_x7") => `(tactic| (with_reducible show wpAny _ _ (getMethod _ (Str.ofString "_load_init") _) _ _ _; first
    | with_reducible refine m445_load_init (by assumption) (by first | assumption | ((repeat (first | exact Bl.Holds.head | assumption | apply Bl.Holds.tail)); all_goals fail) | fail) (by first | assumption | ((repeat (first | exact Bl.Holds.head | assumption | apply Bl.Holds.tail)); all_goals fail) | fail) ?_
    | with_reducible refine m332_load_init (by assumption) (by first | assumption | ((repeat (first | exact Bl.Holds.head | assumption | apply Bl.Holds.tail)); all_goals fail) | fail) (by first | assumption | ((repeat (first | exact Bl.Holds.head | assumption | apply Bl.Holds.tail)); all_goals fail) | fail) ?_))
local macro_rules | `(tactic| walk_at "b_x7") => `(tactic| (with_reducible show wpAny _ _ (getMethod _ (Str.ofString "_hash_func") _) _ _ _; first
    | with_reducible refine mh_hash_func (by assumption) (by first | assumption | ((repeat (first | exact Bl.Holds.head | assumption | apply Bl.Holds.tail)); all_goals fail) | fail) (by first | assumption | ((repeat (first | exact Bl.Holds.head | assumption | apply Bl.Holds.tail)); all_goals fail) | fail) (by first | assumption | with_unfolding_all rfl) (fun _ _ => ?_)))
local macro_rules | `(tactic| walk_at "b_x7") => `(tactic| (with_reducible show wpAny _ _ (getMethod (.int _ _) (Str.ofString "bit_length") _) _ _ _; first
    | with_reducible refine PyProof.Rows.getMethod_int_bit_length ?_))
local macro_rules | `(tactic| walk_at "b_x4") => `(tactic| (with_reducible show wpAny _ _ (eval (.Name _ _) _) _ _ _; walk_at "b_x9"))
local macro_rules | `(tactic| walk_at "b_st") => `(tactic| (with_reducible show wpAny _ _ (call (.builtin "min") _) _ _ _; first
    | with_reducible refine x_min2 (by assumption) (by with_unfolding_all assumption) (fun _ _ _ => ?_)))
local macro_rules | `(tactic| walk_at "b_st") => `(tactic| (with_reducible show wpAny _ _ (call (.builtin "ord") _) _ _ _; first
    | with_reducible refine w_ord (by assumption) (fun _ _ _ => ?_)))
local macro_rules | `(tactic| walk_at "b_st") => `(tactic| (with_reducible show wpAny _ _ (call (.builtin "int.bit_length") _) _ _ _; first
    | with_reducible refine x_blen (by assumption) (fun _ _ _ => ?_)))
local macro_rules | `(tactic| walk_at "b_st") => `(tactic| (with_reducible show wpAny _ _ (call (.type "range") _) _ _ _; first
    | with_reducible refine x_range1 (by assumption) (fun _ _ _ => ?_)
    | with_reducible refine x_range2 (by assumption) (fun _ _ _ => ?_)))
local macro_rules | `(tactic| walk_at "b_st") => `(tactic| (with_reducible show wpAny _ _ (loadName _ _) _ _ _; first
    | with_reducible refine w_loadLocal (by assumption) (by assumption) (by first | assumption | ((repeat (first | exact Bl.Holds.head | assumption | apply Bl.Holds.tail)); all_goals fail) | fail) (by first | ((repeat (first | exact List.mem_cons_self | apply List.mem_cons_of_mem)); all_goals fail) | fail) ?_
    | with_reducible refine w_loadCell (by assumption) (by assumption) (by first | ((repeat (first | exact List.mem_cons_self | apply List.mem_cons_of_mem)); all_goals fail) | fail) (by first | assumption | ((repeat (first | exact Bl.Holds.head | assumption | apply Bl.Holds.tail)); all_goals fail) | fail) ?_))
local macro_rules | `(tactic| walk_at "b_st") => `(tactic| (with_reducible show wpAny _ _ (assign (.Name _ _) _ _) _ _ _; first
    | with_reducible refine PySem.wpAny_assign_Name ?_))
local macro_rules | `(tactic| walk_at "b_st") => `(tactic| (with_reducible show wpAny _ _ (storeName _ _ _) _ _ _; first
    | with_reducible refine w_store (by assumption) (by assumption) (by first | assumption | ((repeat (first | exact Bl.Upd.head | apply Bl.Upd.tail)); all_goals fail) | fail) (by first | ((repeat (first | exact Bl.Put.head | apply Bl.Put.tail)); all_goals fail) | fail) (fun _ _ => ?_)
    | with_reducible refine w_storeCell (by assumption) (by assumption) (by first | ((repeat (first | exact List.mem_cons_self | apply List.mem_cons_of_mem)); all_goals fail) | fail) (by first | assumption | ((repeat (first | exact Bl.Upd.head | apply Bl.Upd.tail)); all_goals fail) | fail) (fun _ _ => ?_)))
local macro_rules | `(tactic| walk_at "b_st") => `(tactic| (with_reducible show wpAny _ _ (truthy (.int _ _)) _ _ _; first
    | with_reducible refine PyProof.Rows.truthy_int ?_))
local macro_rules | `(tactic| walk_at "b_st") => `(tactic| (with_reducible show wpAny _ _ (truthy (.bool _)) _ _ _; first
    | with_reducible refine wpAny_truthy_bool ?_))
local macro_rules | `(tactic| walk_at "b_st") => `(tactic| (with_reducible show wpAny _ _ (unaryOp .USub (.int _ _)) _ _ _; first
    | with_reducible refine w_neg (by assumption) (fun _ _ _ => ?_)))
local macro_rules | `(tactic| walk_at "b_st") => `(tactic| (with_reducible show wpAny _ _ (unaryOp .Not (.bool _)) _ _ _; first
    | with_reducible refine w_notb ?_))
local macro_rules | `(tactic| walk_at "b_st") => `(tactic| (with_reducible show wpAny _ _ (inplaceOp .Sub (.int _ _) (.int _ _)) _ _ _; first
    | with_reducible refine w_isub (by assumption) (fun _ _ _ => ?_)))
local macro_rules | `(tactic| walk_at "b_st") => `(tactic| (with_reducible show wpAny _ _ (inplaceOp .Add (.int _ _) (.int _ _)) _ _ _; first
    | with_reducible refine w_iadd (by assumption) (fun _ _ _ => ?_)))
local macro_rules | `(tactic| walk_at "b_st") => `(tactic| (with_reducible show wpAny _ _ (binaryOp .BitOr (.int _ _) (.int _ _)) _ _ _; first
    | with_reducible refine w_or (by assumption) (fun _ _ _ => ?_)))
local macro_rules | `(tactic| walk_at "b_st") => `(tactic| (with_reducible show wpAny _ _ (binaryOp .BitAnd (.int _ _) (.int _ _)) _ _ _; first
    | with_reducible refine w_and (by assumption) (fun _ _ _ => ?_)))
local macro_rules | `(tactic| walk_at "b_st") => `(tactic| (with_reducible show wpAny _ _ (binaryOp .Sub (.int _ _) (.int _ _)) _ _ _; first
    | with_reducible refine w_sub (by assumption) (fun _ _ _ => ?_)))
local macro_rules | `(tactic| walk_at "b_st") => `(tactic| (with_reducible show wpAny _ _ (binaryOp .Add (.int _ _) (.int _ _)) _ _ _; first
    | with_reducible refine w_add (by assumption) (fun _ _ _ => ?_)))
local macro_rules | `(tactic| walk_at "b_st") => `(tactic| (with_reducible show wpAny _ _ (callWith _ (.ref _) _ (backTo _ (starEach [] _)) _) _ _ _; first
    | with_reducible refine x_cwK0 ?_ (by with_unfolding_all rfl)))
local macro_rules | `(tactic| walk_at "b_st") => `(tactic| (with_reducible show wpAny _ _ (callWith _ (.ref _) _ (backTo _ (starEach (_ :: _) _)) _) _ _ _; first
    | with_reducible refine x_cwK ?_ (by with_unfolding_all rfl)))
local macro_rules | `(tactic| walk_at "b_st") => `(tactic| (with_reducible show wpAny _ _ (callWith _ (.type _) _ (backTo _ (starEach [] _)) _) _ _ _; first
    | with_reducible refine w_cwT0 ?_))
local macro_rules | `(tactic| walk_at "b_st") => `(tactic| (with_reducible show wpAny _ _ (callWith _ (.type _) _ (backTo _ (starEach (_ :: _) _)) _) _ _ _; first
    | with_reducible refine x_cwT ?_))
local macro_rules | `(tactic| walk_at "b_st") => `(tactic| (with_reducible show wpAny _ _ (callWith _ (.builtin _) _ (backTo _ (starEach [] _)) _) _ _ _; first
    | with_reducible refine w_cwB0 ?_))
local macro_rules | `(tactic| walk_at "b_st") => `(tactic| (with_reducible show wpAny _ _ (callWith _ (.builtin _) _ (backTo _ (starEach (_ :: _) _)) _) _ _ _; first
    | with_reducible refine x_cwB ?_))
local macro_rules | `(tactic| walk_at "b_st") => `(tactic| (with_reducible show wpAny _ _ (evalAll ((backToKw _ (keywordEach (_ :: _) _)).map _)) _ _ _; first
    | with_reducible refine kwAll_cons ?_))
local macro_rules | `(tactic| walk_at "b_st") => `(tactic| (with_reducible show wpAny _ _ (evalAll ((backToKw _ (keywordEach [] _)).map _)) _ _ _; first
    | with_reducible refine kwAll_nil ?_))
local macro_rules | `(tactic| walk_at "b_st") => `(tactic| (with_reducible show wpAny _ _ (spliced (backTo _ (starEach (_ :: _) _))) _ _ _; first
    | with_reducible refine x_More ?_))
local macro_rules | `(tactic| walk_at "b_st") => `(tactic| (with_reducible show wpAny _ _ (spliced (backTo _ (starEach [] _))) _ _ _; first
    | with_reducible refine spliced_none ?_))
local macro_rules | `(tactic| walk_at "b_st") => `(tactic| (with_reducible show (if ((!false) = true) then _ else _); with_reducible refine ite_nf ?_))
local macro_rules | `(tactic| walk_at "b_st") => `(tactic| (with_reducible show (if ((!true) = true) then _ else _); with_reducible refine ite_nt ?_))
local macro_rules | `(tactic| walk_at "b_st") => `(tactic| (with_reducible show (if (false = true) then _ else _); with_reducible refine ite_f ?_))
local macro_rules | `(tactic| walk_at "b_st") => `(tactic| (with_reducible show (if (true = true) then _ else _); with_reducible refine ite_t ?_))
local macro_rules | `(tactic| walk_at "b_st") => `(tactic| (with_reducible show wpAny _ _ (testsOf [_] _) _ _ _; first
    | with_reducible refine w_tests1 ?_))
local macro_rules | `(tactic| walk_at "b_st") => `(tactic| (with_reducible show wpAny _ _ (testsOf [] _) _ _ _; first
    | with_reducible refine w_tests0 ?_))
local macro_rules | `(tactic| walk_at "b_st") => `(tactic| (with_reducible show (∃ σ, Bl.Rep _ σ _) ∧ _; refine ⟨⟨_, by assumption⟩, ?_⟩))
local macro_rules | `(tactic| walk_at "b_st") => `(tactic| (with_reducible show (if (!_ == Value.none) = true then _ else _); first | refine iteT (by with_unfolding_all rfl) ?_ | refine iteF (by with_unfolding_all rfl) ?_))
local macro_rules | `(tactic| walk_at "b_st") => `(tactic| (with_reducible show (if (_ == Value.none) = true then _ else _); first | refine iteT (by with_unfolding_all rfl) ?_ | refine iteF (by with_unfolding_all rfl) ?_))
local macro_rules | `(tactic| walk_at "b_st") => `(tactic| (with_reducible show wpAny _ _ (compareOp _ _ _) _ _ _; walk_at "b_x8"))
local macro_rules | `(tactic| walk_at "b_st") => `(tactic| (with_reducible show wpAny _ _ (getMethod _ _ _) _ _ _; walk_at "b_x7"))
local macro_rules | `(tactic| walk_at "b_st") => `(tactic| (with_reducible show wpAny _ _ (setAttr _ _ _) _ _ _; walk_at "b_x6"))
local macro_rules | `(tactic| walk_at "b_st") => `(tactic| (with_reducible show wpAny _ _ (getAttr _ _ _) _ _ _; walk_at "b_x5"))
local macro_rules | `(tactic| walk_at "b_st") => `(tactic| (with_reducible show wpAny _ _ (eval _ _) _ _ _; walk_at "b_x4"))
local macro_rules | `(tactic| walk_at "b_st") => `(tactic| (with_reducible show wpAny _ _ (PySem.isTrue _ _ _) _ _ _; walk_at "b_x3"))
local macro_rules | `(tactic| walk_at "b_st") => `(tactic| (with_reducible show wpAny _ _ (exec _ _) _ _ _; walk_at "b_x2"))
local macro_rules | `(tactic| walk_at "b_st") => `(tactic| (with_reducible show wpAny _ _ (execs _ _) _ _ _; walk_at "b_x1"))
local macro_rules | `(tactic| walk_at "b_go") => `(tactic| repeat walk_at "b_st")

namespace Bl
section
variable {G : Gd hd.heap_39} {A : Around} {E : Value → Shared → Prop} {σ τ : Led} {s : Shared} {env : Env}

def placesOf (o salt : Int) (d : Nat) : List Int := (List.range d).map fun (j : Nat) => (o - 97) * 3 + salt + (j : Int)

theorem sp_places {y : Str} {t u v : Tok} {c d : Nat} {salt : Int} {R' : Result → Shared → Prop} (R : Rep G σ s) (hroom : A.depth < recursionLimit) (hh : A.handled = none)
    (hy : y.cps[0]? = some c) (hd' : d ≤ 1000)
    (h : ∀ D s', Rep G ((D, isInts (placesOf c salt d)) :: σ) s' → R' (.ok (.ret (.ref D))) s') :
    codeAny (model G.prog G.w) A (.call (.ref 467) ⟨[.str y t, .int d u, .int salt v], []⟩) R' s := by
  refine c_KC [("key", .str y t), ("depth", .int d u), ("salt", .int salt v)] [("depth", some (.int d u))] ["salt", "key"] R hroom rfl (fun _ => BindsTo.of_eq rfl) (fun L s' env cl hcl R he hf hfn => ?_)
  revert cl
  refine cells2 fun cs ck R he => ?_
  replace R : Rep G ((L, isNs [(Str.ofString "depth", some (.int d u))]) :: (cs, isCell (some (.int salt v))) :: (ck, isCell (some (.str y t))) :: σ) s' := R
  walk_at "b_go"
  refine w_ListComp (fun o => [(Str.ofString ".0", none), (Str.ofString "place", o)]) none hh he rfl ?_
  walk_at "b_go"
  refine w_iterRange (n := d) (by assumption) (by walk_at "b_mem") (by omega) (by omega) (by omega) (fun it s₁ hn R₁ => ?_)
  refine ⟨it, _, d, _, _, _, fun i acc σ' => σ' = (L, isNs [(Str.ofString "depth", some (.int d u))]) :: (cs, isCell (some (.int salt v))) :: (ck, isCell (some (.str y t))) :: σ ∧ IntsAre acc (placesOf c salt i), rfl, Iter.range hn _ _ _, R₁.sel (by walk_at "b_sel"), ⟨rfl, .nil⟩, fun _ _ _ _ => trivial, by rw [sizeLine_eq]; omega, ?_, ?_⟩
  · rintro E' C D cenv a i acc σ' s₂ v' he' hi ⟨t', rfl⟩ ⟨rfl, hacc⟩ R₂
    walk_at "b_go"
    refine w_strIx (c := c) (by assumption) (by omega) (by omega) hy (fun _ _ _ => ?_)
    walk_at "b_go"
    refine w_mul (by assumption) (.of_right (by decide +kernel)) (fun _ _ _ => ?_)
    walk_at "b_go"
    refine ⟨_, _, by assumption, rfl, ?_⟩
    have e : placesOf (c : Int) salt (i + 1) = placesOf c salt i ++ [((c : Int) - 97) * 3 + salt + i] := by simp [placesOf, List.range_succ]
    rw [e]
    have q := fun t => ints_snoc hacc (((c : Int) - 97) * 3 + salt + i) t
    simpa using q _
  · rintro D acc σ' s₂ ⟨rfl, hacc⟩ R₂
    walk_at "b_go"
    exact h _ _ ((R₂.toInts hacc).sel (by walk_at "b_sel"))
end
end Bl


namespace Bl
section
variable {G : Gd hd.heap_39} {A : Around} {E : Value → Shared → Prop} {σ τ : Led} {s : Shared} {env : Env}

/-- a hash function with that salt -/
structure IsHash (G : Gd hd.heap_39) (τ : Led) (f : Addr) (salt : Int) : Prop where
  fn : ∃ c, Holds G τ f c ∧ ∀ o, c o → isFn o
  run : ∀ {A : Around} {σ : Led} {s : Shared} {y : Str} {t u : Tok} {c d : Nat} {R' : Result → Shared → Prop}, Sub G τ σ → Rep G σ s → A.depth + 1 < recursionLimit → A.handled = none → y.cps[0]? = some c → d ≤ 1000 →
    (∀ D s', Rep G ((D, isInts (placesOf c salt d)) :: σ) s' → R' (.ok (.ret (.ref D))) s') → codeAny (model G.prog G.w) A (.call (.ref f) ⟨[.str y t, .int d u], []⟩) R' s
theorem IsHash.mono {f : Addr} {salt : Int} (h : IsHash G τ f salt) (hs : Sub G τ σ) : IsHash G σ f salt := ⟨let ⟨c, h1, h2⟩ := h.fn; ⟨c, hs _ _ h1, h2⟩, fun h1 => h.run (hs.trans h1)⟩

abbrev hpos : Pos := ⟨315, 11, 315, 59⟩
abbrev hq : Str := Str.ofString "_law_hash" ++ ".<locals>." ++ "<lambda>"

theorem sp_hash1 {n : Int} {t : Tok} {R' : Result → Shared → Prop} (R : Rep G ((469, isTab #[]) :: τ) s) (hl : G.ltabs = [469, 490]) (hroom : A.depth < recursionLimit)
    (h : ∀ f c' cs cf s', Rep G ((f, cf) :: (c', isCodeR hq) :: (cs, isCell (some (.int n t))) :: (469, isTab #[rawInt hpos.line, rawInt hpos.col, .ref c']) :: τ) s' → IsHash G [(f, cf), (c', isCodeR hq), (cs, isCell (some (.int n t)))] f n → R' (.ok (.ret (.ref f))) s') :
    codeAny (model G.prog G.w) A (.call (.ref 474) ⟨[.int n t], []⟩) R' s := by
  refine c_KC [("salt", .int n t)] [] ["salt"] R hroom rfl (fun _ => BindsTo.of_eq rfl) (fun L s' env cl hcl R he hf hfn => ?_)
  revert cl
  refine cells1 fun cs R he => ?_
  replace R : Rep G ((L, isNs []) :: (cs, isCell (some (.int n t))) :: (469, isTab #[]) :: τ) s' := R
  walk_at "b_go"
  refine w_lambda (P := 469) R he rfl (fun _ => by walk_at "b_upd") (tabOff (by rw [hl]; decide)) (by exact trivial) rfl (by kernel_rfl) (fun f c' s₁ R₁ => ?_)
  rw [hfn.2] at R₁
  refine h f c' cs _ s₁ (R₁.sel (by walk_at "b_sel")) ⟨?_, ?_⟩
  · exact ⟨_, Holds.head, fun o ⟨pm, ctv, e⟩ => ⟨_, congrArg Obj.data e⟩⟩
  · intro A σ s y t' u c d R' hs R hroom hh hy hd hk
    have hm := hs _ _ Holds.head
    have hc := hs _ _ (Holds.head.tail)
    have hs' := hs _ _ (Holds.head.tail.tail)
    refine c_lam [("key", .str y t'), ("depth", .int d u)] [("key", some (.str y t')), ("depth", some (.int d u))] R hm hc (by omega) (fun _ _ => rfl) (fun L s' env R he hf hfn => ?_)
    have hs'' := hs'.tail (p := (L, isNs [("key", some (.str y t')), ("depth", some (.int d u))]))
    walk_at "b_go"
    refine x_callM (sp_places (by assumption) (by rw [dd]; omega) hh hy hd (fun D s₂ R₂ => ?_))
    exact hk _ _ (R₂.sel (by walk_at "b_sel"))

theorem sp_hash2 {n : Int} {t : Tok} {c' : Addr} {R' : Result → Shared → Prop} (R : Rep G ((c', isCodeR hq) :: (469, isTab #[rawInt hpos.line, rawInt hpos.col, .ref c']) :: τ) s) (hl : G.ltabs = [469, 490]) (hroom : A.depth < recursionLimit)
    (h : ∀ f cs cf s', Rep G ((f, cf) :: (c', isCodeR hq) :: (cs, isCell (some (.int n t))) :: (469, isTab #[rawInt hpos.line, rawInt hpos.col, .ref c']) :: τ) s' → IsHash G [(f, cf), (c', isCodeR hq), (cs, isCell (some (.int n t)))] f n → R' (.ok (.ret (.ref f))) s') :
    codeAny (model G.prog G.w) A (.call (.ref 474) ⟨[.int n t], []⟩) R' s := by
  refine c_KC [("salt", .int n t)] [] ["salt"] R hroom rfl (fun _ => BindsTo.of_eq rfl) (fun L s' env cl hcl R he hf hfn => ?_)
  revert cl
  refine cells1 fun cs R he => ?_
  replace R : Rep G ((L, isNs []) :: (cs, isCell (some (.int n t))) :: (c', isCodeR hq) :: (469, isTab #[rawInt hpos.line, rawInt hpos.col, .ref c']) :: τ) s' := R
  walk_at "b_go"
  refine w_lambdaHit (P := 469) (c' := c') R he rfl (by walk_at "b_in") (tabOff (by rw [hl]; decide)) (by exact trivial) rfl (by kernel_rfl) (fun f s₁ R₁ => ?_)
  rw [hfn.2] at R₁
  refine h f cs _ s₁ (R₁.sel (by walk_at "b_sel")) ⟨?_, ?_⟩
  · exact ⟨_, Holds.head, fun o ⟨pm, ctv, e⟩ => ⟨_, congrArg Obj.data e⟩⟩
  · intro A σ s y t' u c d R' hs R hroom hh hy hd hk
    have hm := hs _ _ Holds.head
    have hc := hs _ _ (Holds.head.tail)
    have hs' := hs _ _ (Holds.head.tail.tail)
    refine c_lam [("key", .str y t'), ("depth", .int d u)] [("key", some (.str y t')), ("depth", some (.int d u))] R hm hc (by omega) (fun _ _ => rfl) (fun L s' env R he hf hfn => ?_)
    have hs'' := hs'.tail (p := (L, isNs [("key", some (.str y t')), ("depth", some (.int d u))]))
    walk_at "b_go"
    refine x_callM (sp_places (by assumption) (by rw [dd]; omega) hh hy hd (fun D s₂ R₂ => ?_))
    exact hk _ _ (R₂.sel (by walk_at "b_sel"))
theorem mh_hash_func {x f dx : Addr} {svs : List SV} {pl : Sem Bool} {Q : Value × List Value → Shared → Prop} (R : Rep G σ s) (hm : Holds G σ x (obj 445 dx svs)) (hdx : Holds G σ dx isAny) (hv : svs.getD 7 .no = .va (.ref f)) (h : ∀ s', Rep G σ s' → Q (.ref f, []) s') :
    wpAny (model G.prog G.w) A (getMethod (.ref x) (Str.ofString "_hash_func") pl) Q E s :=
  w_usual R hm hdx (by kernel_rfl) (by kernel_rfl) (gv445_hash_func R hm hdx hv h)
end
end Bl

end
section
open PySem PySem.W PyProof.Rows PySem.Calls PyProof Bl
set_option linter.unusedVariables false
set_option maxHeartbeats 8000000

local macro_rules | `(tactic| walk_at "b_mem") => `(tactic| (first | assumption | ((repeat (first | exact Bl.Holds.head | assumption | apply Bl.Holds.tail)); all_goals fail) | fail))
local macro_rules | `(tactic| walk_at "b_in") => `(tactic| (first | ((repeat (first | exact List.mem_cons_self | apply List.mem_cons_of_mem)); all_goals fail) | fail))
local macro_rules | `(tactic| walk_at "b_upd") => `(tactic| (first | assumption | ((repeat (first | exact Bl.Upd.head | apply Bl.Upd.tail)); all_goals fail) | fail))
local macro_rules | `(tactic| walk_at "b_put") => `(tactic| (first | ((repeat (first | exact Bl.Put.head | apply Bl.Put.tail)); all_goals fail) | fail))
local macro_rules | `(tactic| walk_at "b_take") => `(tactic| (first | ((repeat (first | exact Bl.Take.head | apply Bl.Take.tail)); all_goals fail) | fail))
local macro_rules | `(tactic| walk_at "b_sel") => `(tactic| repeat (first | exact Bl.Sel.refl | (apply Bl.Sel.pick; focus ((repeat (first | exact Bl.Take.head | apply Bl.Take.tail)); all_goals fail)) | apply Bl.Sel.drop))
local macro_rules | `(tactic| walk_at "b_x1") => `(tactic| (with_reducible show wpAny _ _ (execs [] _) _ _ _; first
    | with_reducible refine wpAny_execs_nil ?_))
local macro_rules | `(tactic| walk_at "b_x1") => `(tactic| (with_reducible show wpAny _ _ (execs (_ :: _) _) _ _ _; first
    | with_reducible refine wpAny_execs_cons ?_))
local macro_rules | `(tactic| walk_at "b_x2") => `(tactic| (with_reducible show wpAny _ _ (exec (.AugAssign (.Subscript _ _ _) _ _ _) _) _ _ _; first
    | with_reducible refine x_AugSub ?_))
local macro_rules | `(tactic| walk_at "b_x2") => `(tactic| (with_reducible show wpAny _ _ (exec (.AugAssign (.Attribute _ _ _) _ _ _) _) _ _ _; first
    | with_reducible refine wpAny_AugAssign_AttributeAny ?_))
local macro_rules | `(tactic| walk_at "b_x2") => `(tactic| (with_reducible show wpAny _ _ (exec (.AugAssign (.Name _ _) _ _ _) _) _ _ _; first
    | with_reducible refine wpAny_AugAssign_Name ?_))
local macro_rules | `(tactic| walk_at "b_x2") => `(tactic| (with_reducible show wpAny _ _ (exec (.While _ _ _ _) _) _ _ _; first
    | with_reducible refine wpAny_While ?_))
local macro_rules | `(tactic| walk_at "b_x2") => `(tactic| (with_reducible show wpAny _ _ (exec (.For _ _ _ _ _) _) _ _ _; first
    | with_reducible refine x_For ?_))
local macro_rules | `(tactic| walk_at "b_x2") => `(tactic| (with_reducible show wpAny _ _ (exec (.Expr _ _) _) _ _ _; first
    | with_reducible refine x_ExprE (by assumption) ?_
    | with_reducible refine x_Expr ?_))
local macro_rules | `(tactic| walk_at "b_x2") => `(tactic| (with_reducible show wpAny _ _ (exec (.If _ _ _ _) _) _ _ _; first
    | with_reducible refine wpAny_If ?_))
local macro_rules | `(tactic| walk_at "b_x2") => `(tactic| (with_reducible show wpAny _ _ (exec (.Return (some _) _) _) _ _ _; first
    | with_reducible refine wpAny_Return_some ?_))
local macro_rules | `(tactic| walk_at "b_x2") => `(tactic| (with_reducible show wpAny _ _ (exec (.Assign [.Subscript _ _ _] _ _) _) _ _ _; first
    | with_reducible refine x_AssignSub ?_))
local macro_rules | `(tactic| walk_at "b_x2") => `(tactic| (with_reducible show wpAny _ _ (exec (.Assign [.Attribute _ _ _] _ _) _) _ _ _; first
    | with_reducible refine x_AssignAttr ?_))
local macro_rules | `(tactic| walk_at "b_x2") => `(tactic| (with_reducible show wpAny _ _ (exec (.Assign [.Name _ _] _ _) _) _ _ _; first
    | with_reducible refine x_AssignName ?_))
local macro_rules | `(tactic| walk_at "b_x3") => `(tactic| (with_reducible show wpAny _ _ (PySem.isTrue (.Call _ _ _ _) _ _) _ _ _; first
    | with_reducible refine x_TPlain ?_))
local macro_rules | `(tactic| walk_at "b_x3") => `(tactic| (with_reducible show wpAny _ _ (PySem.isTrue (.Name _ _) _ _) _ _ _; first
    | with_reducible refine x_TPlain ?_))
local macro_rules | `(tactic| walk_at "b_x3") => `(tactic| (with_reducible show wpAny _ _ (PySem.isTrue (.IfExp _ _ _ _) _ _) _ _ _; first
    | with_reducible refine isTrue_IfExp ?_))
local macro_rules | `(tactic| walk_at "b_x3") => `(tactic| (with_reducible show wpAny _ _ (PySem.isTrue (.Compare _ [_, _] _ _) _ _) _ _ _; first
    | with_reducible refine x_chain2 ?_))
local macro_rules | `(tactic| walk_at "b_x3") => `(tactic| (with_reducible show wpAny _ _ (PySem.isTrue (.Compare _ [_] _ _) _ _) _ _ _; first
    | with_reducible refine x_TCmp ?_))
local macro_rules | `(tactic| walk_at "b_x3") => `(tactic| (with_reducible show wpAny _ _ (PySem.isTrue (.BoolOp .Or [] _) _ _) _ _ _; first
    | with_reducible refine isTrue_or_nil ?_))
local macro_rules | `(tactic| walk_at "b_x3") => `(tactic| (with_reducible show wpAny _ _ (PySem.isTrue (.BoolOp .And [] _) _ _) _ _ _; first
    | with_reducible refine isTrue_and_nil ?_))
local macro_rules | `(tactic| walk_at "b_x3") => `(tactic| (with_reducible show wpAny _ _ (PySem.isTrue (.BoolOp .Or (_ :: _) _) _ _) _ _ _; first
    | with_reducible refine isTrue_or ?_))
local macro_rules | `(tactic| walk_at "b_x3") => `(tactic| (with_reducible show wpAny _ _ (PySem.isTrue (.BoolOp .And (_ :: _) _) _ _) _ _ _; first
    | with_reducible refine isTrue_and ?_))
local macro_rules | `(tactic| walk_at "b_x3") => `(tactic| (with_reducible show wpAny _ _ (PySem.isTrue (.UnaryOp .Not _ _) _ _) _ _ _; first
    | with_reducible refine isTrue_not ?_))
local macro_rules | `(tactic| walk_at "b_x9") => `(tactic| (with_reducible show wpAny _ _ (eval (.Name _ _) _) _ _ _; first
    | with_reducible refine w_local (by assumption) (by assumption) (by first | assumption | ((repeat (first | exact Bl.Holds.head | assumption | apply Bl.Holds.tail)); all_goals fail) | fail) (by first | ((repeat (first | exact List.mem_cons_self | apply List.mem_cons_of_mem)); all_goals fail) | fail) ?_
    | with_reducible refine w_cellname (by assumption) (by assumption) (by first | ((repeat (first | exact List.mem_cons_self | apply List.mem_cons_of_mem)); all_goals fail) | fail) (by first | assumption | ((repeat (first | exact Bl.Holds.head | assumption | apply Bl.Holds.tail)); all_goals fail) | fail) ?_ (by decide +kernel)
    | with_reducible refine w_freename (by assumption) (by assumption) (by first | ((repeat (first | exact List.mem_cons_self | apply List.mem_cons_of_mem)); all_goals fail) | fail) (by first | assumption | ((repeat (first | exact Bl.Holds.head | assumption | apply Bl.Holds.tail)); all_goals fail) | fail) ?_ (by decide +kernel)
    | with_reducible refine w_global (by assumption) (by assumption) (by with_unfolding_all rfl) ?_))
local macro_rules | `(tactic| walk_at "b_x9") => `(tactic| (with_reducible show wpAny _ _ (eval (.Name (Str.ofString "OverflowError") _) _) _ _ _; first
    | with_reducible refine bn_OverflowError (by assumption) (by assumption) ?_))
local macro_rules | `(tactic| walk_at "b_x9") => `(tactic| (with_reducible show wpAny _ _ (eval (.Name (Str.ofString "TypeError") _) _) _ _ _; first
    | with_reducible refine bn_TypeError (by assumption) (by assumption) ?_))
local macro_rules | `(tactic| walk_at "b_x9") => `(tactic| (with_reducible show wpAny _ _ (eval (.Name (Str.ofString "complex") _) _) _ _ _; first
    | with_reducible refine bn_complex (by assumption) (by assumption) ?_))
local macro_rules | `(tactic| walk_at "b_x9") => `(tactic| (with_reducible show wpAny _ _ (eval (.Name (Str.ofString "float") _) _) _ _ _; first
    | with_reducible refine bn_float (by assumption) (by assumption) ?_))
local macro_rules | `(tactic| walk_at "b_x9") => `(tactic| (with_reducible show wpAny _ _ (eval (.Name (Str.ofString "int") _) _) _ _ _; first
    | with_reducible refine bn_int (by assumption) (by assumption) ?_))
local macro_rules | `(tactic| walk_at "b_x9") => `(tactic| (with_reducible show wpAny _ _ (eval (.Name (Str.ofString "ord") _) _) _ _ _; first
    | with_reducible refine bn_ord (by assumption) (by assumption) ?_))
local macro_rules | `(tactic| walk_at "b_x9") => `(tactic| (with_reducible show wpAny _ _ (eval (.Name (Str.ofString "isinstance") _) _) _ _ _; first
    | with_reducible refine bn_isinstance (by assumption) (by assumption) ?_))
local macro_rules | `(tactic| walk_at "b_x9") => `(tactic| (with_reducible show wpAny _ _ (eval (.Name (Str.ofString "enumerate") _) _) _ _ _; first
    | with_reducible refine bn_enumerate (by assumption) (by assumption) ?_))
local macro_rules | `(tactic| walk_at "b_x9") => `(tactic| (with_reducible show wpAny _ _ (eval (.Name (Str.ofString "sum") _) _) _ _ _; first
    | with_reducible refine bn_sum (by assumption) (by assumption) ?_))
local macro_rules | `(tactic| walk_at "b_x9") => `(tactic| (with_reducible show wpAny _ _ (eval (.Name (Str.ofString "max") _) _) _ _ _; first
    | with_reducible refine bn_max (by assumption) (by assumption) ?_))
local macro_rules | `(tactic| walk_at "b_x9") => `(tactic| (with_reducible show wpAny _ _ (eval (.Name (Str.ofString "min") _) _) _ _ _; first
    | with_reducible refine bn_min (by assumption) (by assumption) ?_))
local macro_rules | `(tactic| walk_at "b_x9") => `(tactic| (with_reducible show wpAny _ _ (eval (.Name (Str.ofString "range") _) _) _ _ _; first
    | with_reducible refine bn_range (by assumption) (by assumption) ?_))
local macro_rules | `(tactic| walk_at "b_x9") => `(tactic| (with_reducible show wpAny _ _ (eval (.Name (Str.ofString "_law_joined") _) _) _ _ _; first
    | with_reducible refine gl_law_joined (by assumption) (by assumption) ?_))
local macro_rules | `(tactic| walk_at "b_x9") => `(tactic| (with_reducible show wpAny _ _ (eval (.Name (Str.ofString "_law_try") _) _) _ _ _; first
    | with_reducible refine gl_law_try (by assumption) (by assumption) ?_))
local macro_rules | `(tactic| walk_at "b_x9") => `(tactic| (with_reducible show wpAny _ _ (eval (.Name (Str.ofString "_law_hash") _) _) _ _ _; first
    | with_reducible refine gl_law_hash (by assumption) (by assumption) ?_))
local macro_rules | `(tactic| walk_at "b_x9") => `(tactic| (with_reducible show wpAny _ _ (eval (.Name (Str.ofString "_law_places") _) _) _ _ _; first
    | with_reducible refine gl_law_places (by assumption) (by assumption) ?_))
local macro_rules | `(tactic| walk_at "b_x9") => `(tactic| (with_reducible show wpAny _ _ (eval (.Name (Str.ofString "_law_rounds") _) _) _ _ _; first
    | with_reducible refine gl_law_rounds (by assumption) (by assumption) ?_))
local macro_rules | `(tactic| walk_at "b_x9") => `(tactic| (with_reducible show wpAny _ _ (eval (.Name (Str.ofString "_law_amounts") _) _) _ _ _; first
    | with_reducible refine gl_law_amounts (by assumption) (by assumption) ?_))
local macro_rules | `(tactic| walk_at "b_x9") => `(tactic| (with_reducible show wpAny _ _ (eval (.Name (Str.ofString "verify_not_type_mismatch_countingbloom") _) _) _ _ _; first
    | with_reducible refine gl_verify_not_type_mismatch_countingbloom (by assumption) (by assumption) ?_))
local macro_rules | `(tactic| walk_at "b_x9") => `(tactic| (with_reducible show wpAny _ _ (eval (.Name (Str.ofString "CountingBloomFilter") _) _) _ _ _; first
    | with_reducible refine gl_CountingBloomFilter (by assumption) (by assumption) ?_))
local macro_rules | `(tactic| walk_at "b_x9") => `(tactic| (with_reducible show wpAny _ _ (eval (.Name (Str.ofString "BloomFilter") _) _) _ _ _; first
    | with_reducible refine gl_BloomFilter (by assumption) (by assumption) ?_))
local macro_rules | `(tactic| walk_at "b_x9") => `(tactic| (with_reducible show wpAny _ _ (eval (.Name (Str.ofString "default_fnv_1a") _) _) _ _ _; first
    | with_reducible refine gl_default_fnv_1a (by assumption) (by assumption) ?_))
local macro_rules | `(tactic| walk_at "b_x9") => `(tactic| (with_reducible show wpAny _ _ (eval (.Name (Str.ofString "UINT64_T_MAX") _) _) _ _ _; first
    | with_reducible refine gl_UINT64_T_MAX (by assumption) (by assumption) ?_))
local macro_rules | `(tactic| walk_at "b_x9") => `(tactic| (with_reducible show wpAny _ _ (eval (.Name (Str.ofString "UINT32_T_MAX") _) _) _ _ _; first
    | with_reducible refine gl_UINT32_T_MAX (by assumption) (by assumption) ?_))
local macro_rules | `(tactic| walk_at "b_x9") => `(tactic| (with_reducible show wpAny _ _ (eval (.Name (Str.ofString "SimilarityError") _) _) _ _ _; first
    | with_reducible refine gl_SimilarityError (by assumption) (by assumption) ?_))
local macro_rules | `(tactic| walk_at "b_x4") => `(tactic| (with_reducible show wpAny _ _ (eval (.Dict [some _, some _] [_, _] _) _) _ _ _; first
    | with_reducible refine w_dict2 (by assumption) (fun _ _ _ _ _ => ?_)))
local macro_rules | `(tactic| walk_at "b_x4") => `(tactic| (with_reducible show wpAny _ _ (eval (.BoolOp .Or (_ :: _ :: _) _) _) _ _ _; first
    | with_reducible refine BoolOp_or ?_))
local macro_rules | `(tactic| walk_at "b_x4") => `(tactic| (with_reducible show wpAny _ _ (eval (.BoolOp .And (_ :: _ :: _) _) _) _ _ _; first
    | with_reducible refine BoolOp_and ?_))
local macro_rules | `(tactic| walk_at "b_x4") => `(tactic| (with_reducible show wpAny _ _ (eval (.BoolOp _ [_] _) _) _ _ _; first
    | with_reducible refine BoolOp_one ?_))
local macro_rules | `(tactic| walk_at "b_x4") => `(tactic| (with_reducible show wpAny _ _ (eval (.Call (.Name _ _) _ _ _) _) _ _ _; first
    | with_reducible refine w_Call ?_))
local macro_rules | `(tactic| walk_at "b_x4") => `(tactic| (with_reducible show wpAny _ _ (eval (.Call (.Attribute _ _ _) _ _ _) _) _ _ _; first
    | with_reducible refine w_callMethod ?_))
local macro_rules | `(tactic| walk_at "b_x4") => `(tactic| (with_reducible show wpAny _ _ (eval (.UnaryOp _ _ _) _) _ _ _; first
    | with_reducible refine wpAny_UnaryOp ?_))
local macro_rules | `(tactic| walk_at "b_x4") => `(tactic| (with_reducible show wpAny _ _ (eval (.Compare _ [_] _ _) _) _ _ _; first
    | with_reducible refine x_Cmp ?_))
local macro_rules | `(tactic| walk_at "b_x4") => `(tactic| (with_reducible show wpAny _ _ (eval (.IfExp _ _ _ _) _) _ _ _; first
    | with_reducible refine wpAny_IfExp ?_))
local macro_rules | `(tactic| walk_at "b_x4") => `(tactic| (with_reducible show wpAny _ _ (eval (.Subscript _ _ _) _) _ _ _; first
    | with_reducible refine Subscript_ ?_))
local macro_rules | `(tactic| walk_at "b_x4") => `(tactic| (with_reducible show wpAny _ _ (eval (.Attribute _ _ _) _) _ _ _; first
    | with_reducible refine x_Attr ?_))
local macro_rules | `(tactic| walk_at "b_x4") => `(tactic| (with_reducible show wpAny _ _ (eval (.BinOp _ _ _ _) _) _ _ _; first
    | with_reducible refine wpAny_BinOp ?_))
local macro_rules | `(tactic| walk_at "b_x4") => `(tactic| (with_reducible show wpAny _ _ (eval (.Constant (.bool _) _ _) _) _ _ _; first
    | with_reducible refine wpAny_Constant_bool ?_))
local macro_rules | `(tactic| walk_at "b_x4") => `(tactic| (with_reducible show wpAny _ _ (eval (.Constant .none _ _) _) _ _ _; first
    | with_reducible refine wpAny_Constant_none ?_))
local macro_rules | `(tactic| walk_at "b_x4") => `(tactic| (with_reducible show wpAny _ _ (eval (.Constant (.str _) _ _) _) _ _ _; first
    | with_reducible refine w_str (by assumption) (fun _ _ _ => ?_)))
local macro_rules | `(tactic| walk_at "b_x4") => `(tactic| (with_reducible show wpAny _ _ (eval (.Constant (.int _) _ _) _) _ _ _; first
    | with_reducible refine w_int (by assumption) (fun _ _ _ => ?_)))
local macro_rules | `(tactic| walk_at "b_x8") => `(tactic| (with_reducible show wpAny _ _ (compareOp .Is (.bool _) (.bool _)) _ _ _; first
    | with_reducible refine is_bool ?_))
local macro_rules | `(tactic| walk_at "b_x8") => `(tactic| (with_reducible show wpAny _ _ (compareOp .IsNot _ .none) _ _ _; first
    | with_reducible refine isnot_none_gen ?_))
local macro_rules | `(tactic| walk_at "b_x8") => `(tactic| (with_reducible show wpAny _ _ (compareOp .Is _ .none) _ _ _; first
    | with_reducible refine is_none_gen ?_))
local macro_rules | `(tactic| walk_at "b_x8") => `(tactic| (with_reducible show wpAny _ _ (compareOp .NotEq (.int _ _) (.int _ _)) _ _ _; first
    | with_reducible refine ne_int ?_))
local macro_rules | `(tactic| walk_at "b_x8") => `(tactic| (with_reducible show wpAny _ _ (compareOp .Eq (.int _ _) (.int _ _)) _ _ _; first
    | with_reducible refine eq_int ?_))
local macro_rules | `(tactic| walk_at "b_x8") => `(tactic| (with_reducible show wpAny _ _ (compareOp .GtE (.int _ _) (.int _ _)) _ _ _; first
    | with_reducible refine ge_int ?_))
local macro_rules | `(tactic| walk_at "b_x8") => `(tactic| (with_reducible show wpAny _ _ (compareOp .LtE (.int _ _) (.int _ _)) _ _ _; first
    | with_reducible refine le_int ?_))
local macro_rules | `(tactic| walk_at "b_x8") => `(tactic| (with_reducible show wpAny _ _ (compareOp .Gt (.int _ _) (.int _ _)) _ _ _; first
    | with_reducible refine gt_int ?_))
local macro_rules | `(tactic| walk_at "b_x8") => `(tactic| (with_reducible show wpAny _ _ (compareOp .Lt (.int _ _) (.int _ _)) _ _ _; first
    | with_reducible refine lt_int ?_))
local macro_rules | `(tactic| walk_at "b_x5") => `(tactic| (with_reducible show wpAny _ _ (getAttr _ (Str.ofString "hash_function") _) _ _ _; first
    | with_reducible refine gp_hash_function (by assumption) (by first | assumption | ((repeat (first | exact Bl.Holds.head | assumption | apply Bl.Holds.tail)); all_goals fail) | fail) (by first | assumption | ((repeat (first | exact Bl.Holds.head | assumption | apply Bl.Holds.tail)); all_goals fail) | fail) (by first | assumption | with_unfolding_all rfl) (by first | assumption | exact Bl.roomD (by assumption) (by decide) | exact Bl.roomDk (by assumption) (by decide) | exact Bl.room0 (by assumption)) (fun _ _ => ?_)))
local macro_rules | `(tactic| walk_at "b_x5") => `(tactic| (with_reducible show wpAny _ _ (getAttr _ (Str.ofString "bloom") _) _ _ _; first
    | with_reducible refine gp_bloom (by assumption) (by first | assumption | ((repeat (first | exact Bl.Holds.head | assumption | apply Bl.Holds.tail)); all_goals fail) | fail) (by first | assumption | ((repeat (first | exact Bl.Holds.head | assumption | apply Bl.Holds.tail)); all_goals fail) | fail) (by first | assumption | with_unfolding_all rfl) (by first | assumption | exact Bl.roomD (by assumption) (by decide) | exact Bl.roomDk (by assumption) (by decide) | exact Bl.room0 (by assumption)) (fun _ _ => ?_)))
local macro_rules | `(tactic| walk_at "b_x5") => `(tactic| (with_reducible show wpAny _ _ (getAttr _ (Str.ofString "bloom_length") _) _ _ _; first
    | with_reducible refine gp_bloom_length (by assumption) (by first | assumption | ((repeat (first | exact Bl.Holds.head | assumption | apply Bl.Holds.tail)); all_goals fail) | fail) (by first | assumption | ((repeat (first | exact Bl.Holds.head | assumption | apply Bl.Holds.tail)); all_goals fail) | fail) (by first | assumption | with_unfolding_all rfl) (by first | assumption | exact Bl.roomD (by assumption) (by decide) | exact Bl.roomDk (by assumption) (by decide) | exact Bl.room0 (by assumption)) (fun _ _ _ => ?_)))
local macro_rules | `(tactic| walk_at "b_x5") => `(tactic| (with_reducible show wpAny _ _ (getAttr _ (Str.ofString "false_positive_rate") _) _ _ _; first
    | with_reducible refine gp_false_positive_rate (by assumption) (by first | assumption | ((repeat (first | exact Bl.Holds.head | assumption | apply Bl.Holds.tail)); all_goals fail) | fail) (by first | assumption | ((repeat (first | exact Bl.Holds.head | assumption | apply Bl.Holds.tail)); all_goals fail) | fail) (by first | assumption | with_unfolding_all rfl) (by first | assumption | exact Bl.roomD (by assumption) (by decide) | exact Bl.roomDk (by assumption) (by decide) | exact Bl.room0 (by assumption)) (fun _ _ _ => ?_)))
local macro_rules | `(tactic| walk_at "b_x5") => `(tactic| (with_reducible show wpAny _ _ (getAttr _ (Str.ofString "estimated_elements") _) _ _ _; first
    | with_reducible refine gp_estimated_elements (by assumption) (by first | assumption | ((repeat (first | exact Bl.Holds.head | assumption | apply Bl.Holds.tail)); all_goals fail) | fail) (by first | assumption | ((repeat (first | exact Bl.Holds.head | assumption | apply Bl.Holds.tail)); all_goals fail) | fail) (by first | assumption | with_unfolding_all rfl) (by first | assumption | exact Bl.roomD (by assumption) (by decide) | exact Bl.roomDk (by assumption) (by decide) | exact Bl.room0 (by assumption)) (fun _ _ _ => ?_)))
local macro_rules | `(tactic| walk_at "b_x5") => `(tactic| (with_reducible show wpAny _ _ (getAttr _ (Str.ofString "elements_added") _) _ _ _; first
    | with_reducible refine gp_elements_added (by assumption) (by first | assumption | ((repeat (first | exact Bl.Holds.head | assumption | apply Bl.Holds.tail)); all_goals fail) | fail) (by first | assumption | ((repeat (first | exact Bl.Holds.head | assumption | apply Bl.Holds.tail)); all_goals fail) | fail) (by first | assumption | with_unfolding_all rfl) (by first | assumption | exact Bl.roomD (by assumption) (by decide) | exact Bl.roomDk (by assumption) (by decide) | exact Bl.room0 (by assumption)) (fun _ _ _ => ?_)))
local macro_rules | `(tactic| walk_at "b_x5") => `(tactic| (with_reducible show wpAny _ _ (getAttr _ (Str.ofString "number_bits") _) _ _ _; first
    | with_reducible refine gp_number_bits (by assumption) (by first | assumption | ((repeat (first | exact Bl.Holds.head | assumption | apply Bl.Holds.tail)); all_goals fail) | fail) (by first | assumption | ((repeat (first | exact Bl.Holds.head | assumption | apply Bl.Holds.tail)); all_goals fail) | fail) (by first | assumption | with_unfolding_all rfl) (by first | assumption | exact Bl.roomD (by assumption) (by decide) | exact Bl.roomDk (by assumption) (by decide) | exact Bl.room0 (by assumption)) (fun _ _ _ => ?_)))
local macro_rules | `(tactic| walk_at "b_x5") => `(tactic| (with_reducible show wpAny _ _ (getAttr _ (Str.ofString "number_hashes") _) _ _ _; first
    | with_reducible refine gp_number_hashes (by assumption) (by first | assumption | ((repeat (first | exact Bl.Holds.head | assumption | apply Bl.Holds.tail)); all_goals fail) | fail) (by first | assumption | ((repeat (first | exact Bl.Holds.head | assumption | apply Bl.Holds.tail)); all_goals fail) | fail) (by first | assumption | with_unfolding_all rfl) (by first | assumption | exact Bl.roomD (by assumption) (by decide) | exact Bl.roomDk (by assumption) (by decide) | exact Bl.room0 (by assumption)) (fun _ _ _ => ?_)))
local macro_rules | `(tactic| walk_at "b_x5") => `(tactic| (with_reducible show wpAny _ _ (getAttr _ (Str.ofString "_typecode") _) _ _ _; first
    | with_reducible refine gs445_typecode (by assumption) (by first | assumption | ((repeat (first | exact Bl.Holds.head | assumption | apply Bl.Holds.tail)); all_goals fail) | fail) (by first | assumption | ((repeat (first | exact Bl.Holds.head | assumption | apply Bl.Holds.tail)); all_goals fail) | fail) (by with_unfolding_all rfl) (fun _ _ _ => ?_)))
local macro_rules | `(tactic| walk_at "b_x5") => `(tactic| (with_reducible show wpAny _ _ (getAttr _ (Str.ofString "_number_hashes") _) _ _ _; first
    | with_reducible refine gi445_number_hashes (by assumption) (by first | assumption | ((repeat (first | exact Bl.Holds.head | assumption | apply Bl.Holds.tail)); all_goals fail) | fail) (by first | assumption | ((repeat (first | exact Bl.Holds.head | assumption | apply Bl.Holds.tail)); all_goals fail) | fail) (by first | assumption | with_unfolding_all rfl) (fun _ _ _ => ?_)))
local macro_rules | `(tactic| walk_at "b_x5") => `(tactic| (with_reducible show wpAny _ _ (getAttr _ (Str.ofString "_num_bits") _) _ _ _; first
    | with_reducible refine gi445_num_bits (by assumption) (by first | assumption | ((repeat (first | exact Bl.Holds.head | assumption | apply Bl.Holds.tail)); all_goals fail) | fail) (by first | assumption | ((repeat (first | exact Bl.Holds.head | assumption | apply Bl.Holds.tail)); all_goals fail) | fail) (by first | assumption | with_unfolding_all rfl) (fun _ _ _ => ?_)))
local macro_rules | `(tactic| walk_at "b_x5") => `(tactic| (with_reducible show wpAny _ _ (getAttr _ (Str.ofString "_hash_func") _) _ _ _; first
    | with_reducible refine gv445_hash_func (by assumption) (by first | assumption | ((repeat (first | exact Bl.Holds.head | assumption | apply Bl.Holds.tail)); all_goals fail) | fail) (by first | assumption | ((repeat (first | exact Bl.Holds.head | assumption | apply Bl.Holds.tail)); all_goals fail) | fail) (by first | assumption | with_unfolding_all rfl) (fun _ _ => ?_)))
local macro_rules | `(tactic| walk_at "b_x5") => `(tactic| (with_reducible show wpAny _ _ (getAttr _ (Str.ofString "_fpr") _) _ _ _; first
    | with_reducible refine gi445_fpr (by assumption) (by first | assumption | ((repeat (first | exact Bl.Holds.head | assumption | apply Bl.Holds.tail)); all_goals fail) | fail) (by first | assumption | ((repeat (first | exact Bl.Holds.head | assumption | apply Bl.Holds.tail)); all_goals fail) | fail) (by first | assumption | with_unfolding_all rfl) (fun _ _ _ => ?_)))
local macro_rules | `(tactic| walk_at "b_x5") => `(tactic| (with_reducible show wpAny _ _ (getAttr _ (Str.ofString "_est_elements") _) _ _ _; first
    | with_reducible refine gi445_est_elements (by assumption) (by first | assumption | ((repeat (first | exact Bl.Holds.head | assumption | apply Bl.Holds.tail)); all_goals fail) | fail) (by first | assumption | ((repeat (first | exact Bl.Holds.head | assumption | apply Bl.Holds.tail)); all_goals fail) | fail) (by first | assumption | with_unfolding_all rfl) (fun _ _ _ => ?_)))
local macro_rules | `(tactic| walk_at "b_x5") => `(tactic| (with_reducible show wpAny _ _ (getAttr _ (Str.ofString "_els_added") _) _ _ _; first
    | with_reducible refine gi445_els_added (by assumption) (by first | assumption | ((repeat (first | exact Bl.Holds.head | assumption | apply Bl.Holds.tail)); all_goals fail) | fail) (by first | assumption | ((repeat (first | exact Bl.Holds.head | assumption | apply Bl.Holds.tail)); all_goals fail) | fail) (by first | assumption | with_unfolding_all rfl) (fun _ _ _ => ?_)))
local macro_rules | `(tactic| walk_at "b_x5") => `(tactic| (with_reducible show wpAny _ _ (getAttr _ (Str.ofString "_bloom_length") _) _ _ _; first
    | with_reducible refine gi445_bloom_length (by assumption) (by first | assumption | ((repeat (first | exact Bl.Holds.head | assumption | apply Bl.Holds.tail)); all_goals fail) | fail) (by first | assumption | ((repeat (first | exact Bl.Holds.head | assumption | apply Bl.Holds.tail)); all_goals fail) | fail) (by first | assumption | with_unfolding_all rfl) (fun _ _ _ => ?_)
    | with_reducible refine gi332_bloom_length (by assumption) (by first | assumption | ((repeat (first | exact Bl.Holds.head | assumption | apply Bl.Holds.tail)); all_goals fail) | fail) (by first | assumption | ((repeat (first | exact Bl.Holds.head | assumption | apply Bl.Holds.tail)); all_goals fail) | fail) (by first | assumption | with_unfolding_all rfl) (fun _ _ _ => ?_)))
local macro_rules | `(tactic| walk_at "b_x5") => `(tactic| (with_reducible show wpAny _ _ (getAttr _ (Str.ofString "_bloom") _) _ _ _; first
    | with_reducible refine gv445_bloom (by assumption) (by first | assumption | ((repeat (first | exact Bl.Holds.head | assumption | apply Bl.Holds.tail)); all_goals fail) | fail) (by first | assumption | ((repeat (first | exact Bl.Holds.head | assumption | apply Bl.Holds.tail)); all_goals fail) | fail) (by first | assumption | with_unfolding_all rfl) (fun _ _ => ?_)))
local macro_rules | `(tactic| walk_at "b_x6") => `(tactic| (with_reducible show wpAny _ _ (setAttr _ (Str.ofString "elements_added") (.int _ _)) _ _ _; first
    | with_reducible refine sp_elements_added (by assumption) (by first | assumption | ((repeat (first | exact Bl.Upd.head | apply Bl.Upd.tail)); all_goals fail) | fail) (by first | assumption | ((repeat (first | exact Bl.Holds.head | assumption | apply Bl.Holds.tail)); all_goals fail) | fail) (by with_unfolding_all rfl) (by with_unfolding_all exact Nat.le_of_ble_eq_true rfl) (by first | assumption | exact Bl.roomD (by assumption) (by decide) | exact Bl.roomDk (by assumption) (by decide) | exact Bl.room0 (by assumption)) (fun _ _ => ?_)))
local macro_rules | `(tactic| walk_at "b_x6") => `(tactic| (with_reducible show wpAny _ _ (setAttr _ (Str.ofString "_filepath") _) _ _ _; first
    | with_reducible refine sv445_filepath (by assumption) (by first | assumption | ((repeat (first | exact Bl.Upd.head | apply Bl.Upd.tail)); all_goals fail) | fail) (by first | assumption | ((repeat (first | exact Bl.Holds.head | assumption | apply Bl.Holds.tail)); all_goals fail) | fail) (by with_unfolding_all rfl) (by with_unfolding_all exact Nat.le_of_ble_eq_true rfl) (fun _ _ => ?_)))
local macro_rules | `(tactic| walk_at "b_x6") => `(tactic| (with_reducible show wpAny _ _ (setAttr _ (Str.ofString "_typecode") (.str _ _)) _ _ _; first
    | with_reducible refine ss445_typecode (by assumption) (by first | assumption | ((repeat (first | exact Bl.Upd.head | apply Bl.Upd.tail)); all_goals fail) | fail) (by first | assumption | ((repeat (first | exact Bl.Holds.head | assumption | apply Bl.Holds.tail)); all_goals fail) | fail) (by with_unfolding_all rfl) (by with_unfolding_all exact Nat.le_of_ble_eq_true rfl) (fun _ _ => ?_)
    | with_reducible refine ss332_typecode (by assumption) (by first | assumption | ((repeat (first | exact Bl.Upd.head | apply Bl.Upd.tail)); all_goals fail) | fail) (by first | assumption | ((repeat (first | exact Bl.Holds.head | assumption | apply Bl.Holds.tail)); all_goals fail) | fail) (by with_unfolding_all rfl) (by with_unfolding_all exact Nat.le_of_ble_eq_true rfl) (fun _ _ => ?_)))
local macro_rules | `(tactic| walk_at "b_x6") => `(tactic| (with_reducible show wpAny _ _ (setAttr _ (Str.ofString "_type") (.str _ _)) _ _ _; first
    | with_reducible refine ss445_type (by assumption) (by first | assumption | ((repeat (first | exact Bl.Upd.head | apply Bl.Upd.tail)); all_goals fail) | fail) (by first | assumption | ((repeat (first | exact Bl.Holds.head | assumption | apply Bl.Holds.tail)); all_goals fail) | fail) (by with_unfolding_all rfl) (by with_unfolding_all exact Nat.le_of_ble_eq_true rfl) (fun _ _ => ?_)
    | with_reducible refine ss332_type (by assumption) (by first | assumption | ((repeat (first | exact Bl.Upd.head | apply Bl.Upd.tail)); all_goals fail) | fail) (by first | assumption | ((repeat (first | exact Bl.Holds.head | assumption | apply Bl.Holds.tail)); all_goals fail) | fail) (by with_unfolding_all rfl) (by with_unfolding_all exact Nat.le_of_ble_eq_true rfl) (fun _ _ => ?_)))
local macro_rules | `(tactic| walk_at "b_x6") => `(tactic| (with_reducible show wpAny _ _ (setAttr _ (Str.ofString "_on_disk") _) _ _ _; first
    | with_reducible refine sv445_on_disk (by assumption) (by first | assumption | ((repeat (first | exact Bl.Upd.head | apply Bl.Upd.tail)); all_goals fail) | fail) (by first | assumption | ((repeat (first | exact Bl.Holds.head | assumption | apply Bl.Holds.tail)); all_goals fail) | fail) (by with_unfolding_all rfl) (by with_unfolding_all exact Nat.le_of_ble_eq_true rfl) (fun _ _ => ?_)
    | with_reducible refine sv332_on_disk (by assumption) (by first | assumption | ((repeat (first | exact Bl.Upd.head | apply Bl.Upd.tail)); all_goals fail) | fail) (by first | assumption | ((repeat (first | exact Bl.Holds.head | assumption | apply Bl.Holds.tail)); all_goals fail) | fail) (by with_unfolding_all rfl) (by with_unfolding_all exact Nat.le_of_ble_eq_true rfl) (fun _ _ => ?_)))
local macro_rules | `(tactic| walk_at "b_x6") => `(tactic| (with_reducible show wpAny _ _ (setAttr _ (Str.ofString "_number_hashes") (.int _ _)) _ _ _; first
    | with_reducible refine si445_number_hashes (by assumption) (by first | assumption | ((repeat (first | exact Bl.Upd.head | apply Bl.Upd.tail)); all_goals fail) | fail) (by first | assumption | ((repeat (first | exact Bl.Holds.head | assumption | apply Bl.Holds.tail)); all_goals fail) | fail) (by with_unfolding_all rfl) (by with_unfolding_all exact Nat.le_of_ble_eq_true rfl) (fun _ _ => ?_)
    | with_reducible refine si332_number_hashes (by assumption) (by first | assumption | ((repeat (first | exact Bl.Upd.head | apply Bl.Upd.tail)); all_goals fail) | fail) (by first | assumption | ((repeat (first | exact Bl.Holds.head | assumption | apply Bl.Holds.tail)); all_goals fail) | fail) (by with_unfolding_all rfl) (by with_unfolding_all exact Nat.le_of_ble_eq_true rfl) (fun _ _ => ?_)))
local macro_rules | `(tactic| walk_at "b_x6") => `(tactic| (with_reducible show wpAny _ _ (setAttr _ (Str.ofString "_num_bits") (.int _ _)) _ _ _; first
    | with_reducible refine si445_num_bits (by assumption) (by first | assumption | ((repeat (first | exact Bl.Upd.head | apply Bl.Upd.tail)); all_goals fail) | fail) (by first | assumption | ((repeat (first | exact Bl.Holds.head | assumption | apply Bl.Holds.tail)); all_goals fail) | fail) (by with_unfolding_all rfl) (by with_unfolding_all exact Nat.le_of_ble_eq_true rfl) (fun _ _ => ?_)
    | with_reducible refine si332_num_bits (by assumption) (by first | assumption | ((repeat (first | exact Bl.Upd.head | apply Bl.Upd.tail)); all_goals fail) | fail) (by first | assumption | ((repeat (first | exact Bl.Holds.head | assumption | apply Bl.Holds.tail)); all_goals fail) | fail) (by with_unfolding_all rfl) (by with_unfolding_all exact Nat.le_of_ble_eq_true rfl) (fun _ _ => ?_)))
local macro_rules | `(tactic| walk_at "b_x6") => `(tactic| (with_reducible show wpAny _ _ (setAttr _ (Str.ofString "_hash_func") _) _ _ _; first
    | with_reducible refine sv445_hash_func (by assumption) (by first | assumption | ((repeat (first | exact Bl.Upd.head | apply Bl.Upd.tail)); all_goals fail) | fail) (by first | assumption | ((repeat (first | exact Bl.Holds.head | assumption | apply Bl.Holds.tail)); all_goals fail) | fail) (by with_unfolding_all rfl) (by with_unfolding_all exact Nat.le_of_ble_eq_true rfl) (fun _ _ => ?_)
    | with_reducible refine sv332_hash_func (by assumption) (by first | assumption | ((repeat (first | exact Bl.Upd.head | apply Bl.Upd.tail)); all_goals fail) | fail) (by first | assumption | ((repeat (first | exact Bl.Holds.head | assumption | apply Bl.Holds.tail)); all_goals fail) | fail) (by with_unfolding_all rfl) (by with_unfolding_all exact Nat.le_of_ble_eq_true rfl) (fun _ _ => ?_)))
local macro_rules | `(tactic| walk_at "b_x6") => `(tactic| (with_reducible show wpAny _ _ (setAttr _ (Str.ofString "_fpr") (.int _ _)) _ _ _; first
    | with_reducible refine si445_fpr (by assumption) (by first | assumption | ((repeat (first | exact Bl.Upd.head | apply Bl.Upd.tail)); all_goals fail) | fail) (by first | assumption | ((repeat (first | exact Bl.Holds.head | assumption | apply Bl.Holds.tail)); all_goals fail) | fail) (by with_unfolding_all rfl) (by with_unfolding_all exact Nat.le_of_ble_eq_true rfl) (fun _ _ => ?_)
    | with_reducible refine si332_fpr (by assumption) (by first | assumption | ((repeat (first | exact Bl.Upd.head | apply Bl.Upd.tail)); all_goals fail) | fail) (by first | assumption | ((repeat (first | exact Bl.Holds.head | assumption | apply Bl.Holds.tail)); all_goals fail) | fail) (by with_unfolding_all rfl) (by with_unfolding_all exact Nat.le_of_ble_eq_true rfl) (fun _ _ => ?_)))
local macro_rules | `(tactic| walk_at "b_x6") => `(tactic| (with_reducible show wpAny _ _ (setAttr _ (Str.ofString "_est_elements") (.int _ _)) _ _ _; first
    | with_reducible refine si445_est_elements (by assumption) (by first | assumption | ((repeat (first | exact Bl.Upd.head | apply Bl.Upd.tail)); all_goals fail) | fail) (by first | assumption | ((repeat (first | exact Bl.Holds.head | assumption | apply Bl.Holds.tail)); all_goals fail) | fail) (by with_unfolding_all rfl) (by with_unfolding_all exact Nat.le_of_ble_eq_true rfl) (fun _ _ => ?_)
    | with_reducible refine si332_est_elements (by assumption) (by first | assumption | ((repeat (first | exact Bl.Upd.head | apply Bl.Upd.tail)); all_goals fail) | fail) (by first | assumption | ((repeat (first | exact Bl.Holds.head | assumption | apply Bl.Holds.tail)); all_goals fail) | fail) (by with_unfolding_all rfl) (by with_unfolding_all exact Nat.le_of_ble_eq_true rfl) (fun _ _ => ?_)))
local macro_rules | `(tactic| walk_at "b_x6") => `(tactic| (with_reducible show wpAny _ _ (setAttr _ (Str.ofString "_els_added") (.int _ _)) _ _ _; first
    | with_reducible refine si445_els_added (by assumption) (by first | assumption | ((repeat (first | exact Bl.Upd.head | apply Bl.Upd.tail)); all_goals fail) | fail) (by first | assumption | ((repeat (first | exact Bl.Holds.head | assumption | apply Bl.Holds.tail)); all_goals fail) | fail) (by with_unfolding_all rfl) (by with_unfolding_all exact Nat.le_of_ble_eq_true rfl) (fun _ _ => ?_)
    | with_reducible refine si332_els_added (by assumption) (by first | assumption | ((repeat (first | exact Bl.Upd.head | apply Bl.Upd.tail)); all_goals fail) | fail) (by first | assumption | ((repeat (first | exact Bl.Holds.head | assumption | apply Bl.Holds.tail)); all_goals fail) | fail) (by with_unfolding_all rfl) (by with_unfolding_all exact Nat.le_of_ble_eq_true rfl) (fun _ _ => ?_)))
local macro_rules | `(tactic| walk_at "b_x6") => `(tactic| (with_reducible show wpAny _ _ (setAttr _ (Str.ofString "_bloom_length") (.int _ _)) _ _ _; first
    | with_reducible refine si445_bloom_length (by assumption) (by first | assumption | ((repeat (first | exact Bl.Upd.head | apply Bl.Upd.tail)); all_goals fail) | fail) (by first | assumption | ((repeat (first | exact Bl.Holds.head | assumption | apply Bl.Holds.tail)); all_goals fail) | fail) (by with_unfolding_all rfl) (by with_unfolding_all exact Nat.le_of_ble_eq_true rfl) (fun _ _ => ?_)
    | with_reducible refine si332_bloom_length (by assumption) (by first | assumption | ((repeat (first | exact Bl.Upd.head | apply Bl.Upd.tail)); all_goals fail) | fail) (by first | assumption | ((repeat (first | exact Bl.Holds.head | assumption | apply Bl.Holds.tail)); all_goals fail) | fail) (by with_unfolding_all rfl) (by with_unfolding_all exact Nat.le_of_ble_eq_true rfl) (fun _ _ => ?_)))
local macro_rules | `(tactic| walk_at "b_x6") => `(tactic| (with_reducible show wpAny _ _ (setAttr _ (Str.ofString "_bloom") _) _ _ _; first
    | with_reducible refine sv445_bloom (by assumption) (by first | assumption | ((repeat (first | exact Bl.Upd.head | apply Bl.Upd.tail)); all_goals fail) | fail) (by first | assumption | ((repeat (first | exact Bl.Holds.head | assumption | apply Bl.Holds.tail)); all_goals fail) | fail) (by with_unfolding_all rfl) (by with_unfolding_all exact Nat.le_of_ble_eq_true rfl) (fun _ _ => ?_)
    | with_reducible refine sv332_bloom (by assumption) (by first | assumption | ((repeat (first | exact Bl.Upd.head | apply Bl.Upd.tail)); all_goals fail) | fail) (by first | assumption | ((repeat (first | exact Bl.Holds.head | assumption | apply Bl.Holds.tail)); all_goals fail) | fail) (by with_unfolding_all rfl) (by with_unfolding_all exact Nat.le_of_ble_eq_true rfl) (fun _ _ => ?_)))
local macro_rules | `(tactic| walk_at "b_x7") => `(tactic| (with_reducible show wpAny _ _ (getMethod _ (Str.ofString "_verify_bloom_similarity") _) _ _ _; first
    | with_reducible refine m445_verify_bloom_similarity (by assumption) (by first | assumption | ((repeat (first | exact Bl.Holds.head | assumption | apply Bl.Holds.tail)); all_goals fail) | fail) (by first | assumption | ((repeat (first | exact Bl.Holds.head | assumption | apply Bl.Holds.tail)); all_goals fail) | fail) ?_))
local macro_rules | `(tactic| walk_at "b_x7") => `(tactic| (with_reducible show wpAny _ _ (getMethod _ (Str.ofString "_cnt_number_bits_set") _) _ _ _; first
    | with_reducible refine m445_cnt_number_bits_set (by assumption) (by first | assumption | ((repeat (first | exact Bl.Holds.head | assumption | apply Bl.Holds.tail)); all_goals fail) | fail) (by first | assumption | ((repeat (first | exact Bl.Holds.head | assumption | apply Bl.Holds.tail)); all_goals fail) | fail) ?_))
local macro_rules | `(tactic| walk_at "b_x7") => `(tactic| (with_reducible show wpAny _ _ (getMethod _ (Str.ofString "estimate_elements") _) _ _ _; first
    | with_reducible refine m445_estimate_elements (by assumption) (by first | assumption | ((repeat (first | exact Bl.Holds.head | assumption | apply Bl.Holds.tail)); all_goals fail) | fail) (by first | assumption | ((repeat (first | exact Bl.Holds.head | assumption | apply Bl.Holds.tail)); all_goals fail) | fail) ?_))
local macro_rules | `(tactic| walk_at "b_x7") => `(tactic| (with_reducible show wpAny _ _ (getMethod _ (Str.ofString "intersection") _) _ _ _; first
    | with_reducible refine m445_intersection (by assumption) (by first | assumption | ((repeat (first | exact Bl.Holds.head | assumption | apply Bl.Holds.tail)); all_goals fail) | fail) (by first | assumption | ((repeat (first | exact Bl.Holds.head | assumption | apply Bl.Holds.tail)); all_goals fail) | fail) ?_))
local macro_rules | `(tactic| walk_at "b_x7") => `(tactic| (with_reducible show wpAny _ _ (getMethod _ (Str.ofString "union") _) _ _ _; first
    | with_reducible refine m445_union (by assumption) (by first | assumption | ((repeat (first | exact Bl.Holds.head | assumption | apply Bl.Holds.tail)); all_goals fail) | fail) (by first | assumption | ((repeat (first | exact Bl.Holds.head | assumption | apply Bl.Holds.tail)); all_goals fail) | fail) ?_))
local macro_rules | `(tactic| walk_at "b_x7") => `(tactic| (with_reducible show wpAny _ _ (getMethod _ (Str.ofString "clear") _) _ _ _; first
    | with_reducible refine m445_clear (by assumption) (by first | assumption | ((repeat (first | exact Bl.Holds.head | assumption | apply Bl.Holds.tail)); all_goals fail) | fail) (by first | assumption | ((repeat (first | exact Bl.Holds.head | assumption | apply Bl.Holds.tail)); all_goals fail) | fail) ?_))
local macro_rules | `(tactic| walk_at "b_x7") => `(tactic| (with_reducible show wpAny _ _ (getMethod _ (Str.ofString "remove") _) _ _ _; first
    | with_reducible refine m445_remove (by assumption) (by first | assumption | ((repeat (first | exact Bl.Holds.head | assumption | apply Bl.Holds.tail)); all_goals fail) | fail) (by first | assumption | ((repeat (first | exact Bl.Holds.head | assumption | apply Bl.Holds.tail)); all_goals fail) | fail) ?_))
local macro_rules | `(tactic| walk_at "b_x7") => `(tactic| (with_reducible show wpAny _ _ (getMethod _ (Str.ofString "check") _) _ _ _; first
    | with_reducible refine m445_check (by assumption) (by first | assumption | ((repeat (first | exact Bl.Holds.head | assumption | apply Bl.Holds.tail)); all_goals fail) | fail) (by first | assumption | ((repeat (first | exact Bl.Holds.head | assumption | apply Bl.Holds.tail)); all_goals fail) | fail) ?_))
local macro_rules | `(tactic| walk_at "b_x7") => `(tactic| (with_reducible show wpAny _ _ (getMethod _ (Str.ofString "add") _) _ _ _; first
    | with_reducible refine m445_add (by assumption) (by first | assumption | ((repeat (first | exact Bl.Holds.head | assumption | apply Bl.Holds.tail)); all_goals fail) | fail) (by first | assumption | ((repeat (first | exact Bl.Holds.head | assumption | apply Bl.Holds.tail)); all_goals fail) | fail) ?_))
local macro_rules | `(tactic| walk_at "b_x7") => `(tactic| (with_reducible show wpAny _ _ (getMethod _ (Str.ofString "remove_alt") _) _ _ _; first
    | with_reducible refine m445_remove_alt (by assumption) (by first | assumption | ((repeat (first | exact Bl.Holds.head | assumption | apply Bl.Holds.tail)); all_goals fail) | fail) (by first | assumption | ((repeat (first | exact Bl.Holds.head | assumption | apply Bl.Holds.tail)); all_goals fail) | fail) ?_))
local macro_rules | `(tactic| walk_at "b_x7") => `(tactic| (with_reducible show wpAny _ _ (getMethod _ (Str.ofString "check_alt") _) _ _ _; first
    | with_reducible refine m445_check_alt (by assumption) (by first | assumption | ((repeat (first | exact Bl.Holds.head | assumption | apply Bl.Holds.tail)); all_goals fail) | fail) (by first | assumption | ((repeat (first | exact Bl.Holds.head | assumption | apply Bl.Holds.tail)); all_goals fail) | fail) ?_))
local macro_rules | `(tactic| walk_at "b_x7") => `(tactic| (with_reducible show wpAny _ _ (getMethod _ (Str.ofString "add_alt") _) _ _ _; first
    | with_reducible refine m445_add_alt (by assumption) (by first | assumption | ((repeat (first | exact Bl.Holds.head | assumption | apply Bl.Holds.tail)); all_goals fail) | fail) (by first | assumption | ((repeat (first | exact Bl.Holds.head | assumption | apply Bl.Holds.tail)); all_goals fail) | fail) ?_))
local macro_rules | `(tactic| walk_at "b_x7") => `(tactic| (with_reducible show wpAny _ _ (getMethod _ (Str.ofString "hashes") _) _ _ _; first
    | with_reducible refine m445_hashes (by assumption) (by first | assumption | ((repeat (first | exact Bl.Holds.head | assumption | apply Bl.Holds.tail)); all_goals fail) | fail) (by first | assumption | ((repeat (first | exact Bl.Holds.head | assumption | apply Bl.Holds.tail)); all_goals fail) | fail) ?_))
local macro_rules | `(tactic| walk_at "b_x7") => `(tactic| (with_reducible show wpAny _ _ (getMethod _ (Str.ofString "_set_values") _) _ _ _; first
    | with_reducible refine m445_set_values (by assumption) (by first | assumption | ((repeat (first | exact Bl.Holds.head | assumption | apply Bl.Holds.tail)); all_goals fail) | fail) (by first | assumption | ((repeat (first | exact Bl.Holds.head | assumption | apply Bl.Holds.tail)); all_goals fail) | fail) ?_
    | with_reducible refine m332_set_values (by assumption) (by first | assumption | ((repeat (first | exact Bl.Holds.head | assumption | apply Bl.Holds.tail)); all_goals fail) | fail) (by first | assumption | ((repeat (first | exact Bl.Holds.head | assumption | apply Bl.Holds.tail)); all_goals fail) | fail) ?_))
local macro_rules | `(tactic| walk_at "b_x7") => `(tactic| (with_reducible show wpAny _ _ (getMethod _ (Str.ofString "_load_init") _) _ _ _; first
    | with_reducible refine m445_load_init (by assumption) (by first | assumption | ((repeat (first | exact Bl.Holds.head | assumption | apply Bl.Holds.tail)); all_goals fail) | fail) (by first | assumption | ((repeat (first | exact Bl.Holds.head | assumption | apply Bl.Holds.tail)); all_goals fail) | fail) ?_
    | with_reducible refine m332_load_init (by assumption) (by first | assumption | ((repeat (first | exact Bl.Holds.head | assumption | apply Bl.Holds.tail)); all_goals fail) | fail) (by first | assumption | ((repeat (first | exact Bl.Holds.head | assumption | apply Bl.Holds.tail)); all_goals fail) | fail) ?_))
local macro_rules | `(tactic| walk_at "b_x7") => `(tactic| (with_reducible show wpAny _ _ (getMethod _ (Str.ofString "_hash_func") _) _ _ _; first
    | with_reducible refine mh_hash_func (by assumption) (by first | assumption | ((repeat (first | exact Bl.Holds.head | assumption | apply Bl.Holds.tail)); all_goals fail) | fail) (by first | assumption | ((repeat (first | exact Bl.Holds.head | assumption | apply Bl.Holds.tail)); all_goals fail) | fail) (by first | assumption | with_unfolding_all rfl) (fun _ _ => ?_)))
local macro_rules | `(tactic| walk_at "b_x7") => `(tactic| (with_reducible show wpAny _ _ (getMethod (.int _ _) (Str.ofString "bit_length") _) _ _ _; first
    | with_reducible refine PyProof.Rows.getMethod_int_bit_length ?_))
local macro_rules | `(tactic| walk_at "b_x4") => `(tactic| (with_reducible show wpAny _ _ (eval (.Name _ _) _) _ _ _; walk_at "b_x9"))
local macro_rules | `(tactic| walk_at "b_st") => `(tactic| (with_reducible show wpAny _ _ (call (.builtin "min") _) _ _ _; first
    | with_reducible refine x_min2 (by assumption) (by with_unfolding_all assumption) (fun _ _ _ => ?_)))
local macro_rules | `(tactic| walk_at "b_st") => `(tactic| (with_reducible show wpAny _ _ (call (.builtin "ord") _) _ _ _; first
    | with_reducible refine w_ord (by assumption) (fun _ _ _ => ?_)))
local macro_rules | `(tactic| walk_at "b_st") => `(tactic| (with_reducible show wpAny _ _ (call (.builtin "int.bit_length") _) _ _ _; first
    | with_reducible refine x_blen (by assumption) (fun _ _ _ => ?_)))
local macro_rules | `(tactic| walk_at "b_st") => `(tactic| (with_reducible show wpAny _ _ (call (.type "range") _) _ _ _; first
    | with_reducible refine x_range1 (by assumption) (fun _ _ _ => ?_)
    | with_reducible refine x_range2 (by assumption) (fun _ _ _ => ?_)))
local macro_rules | `(tactic| walk_at "b_st") => `(tactic| (with_reducible show wpAny _ _ (loadName _ _) _ _ _; first
    | with_reducible refine w_loadLocal (by assumption) (by assumption) (by first | assumption | ((repeat (first | exact Bl.Holds.head | assumption | apply Bl.Holds.tail)); all_goals fail) | fail) (by first | ((repeat (first | exact List.mem_cons_self | apply List.mem_cons_of_mem)); all_goals fail) | fail) ?_
    | with_reducible refine w_loadCell (by assumption) (by assumption) (by first | ((repeat (first | exact List.mem_cons_self | apply List.mem_cons_of_mem)); all_goals fail) | fail) (by first | assumption | ((repeat (first | exact Bl.Holds.head | assumption | apply Bl.Holds.tail)); all_goals fail) | fail) ?_))
local macro_rules | `(tactic| walk_at "b_st") => `(tactic| (with_reducible show wpAny _ _ (assign (.Name _ _) _ _) _ _ _; first
    | with_reducible refine PySem.wpAny_assign_Name ?_))
local macro_rules | `(tactic| walk_at "b_st") => `(tactic| (with_reducible show wpAny _ _ (storeName _ _ _) _ _ _; first
    | with_reducible refine w_store (by assumption) (by assumption) (by first | assumption | ((repeat (first | exact Bl.Upd.head | apply Bl.Upd.tail)); all_goals fail) | fail) (by first | ((repeat (first | exact Bl.Put.head | apply Bl.Put.tail)); all_goals fail) | fail) (fun _ _ => ?_)
    | with_reducible refine w_storeCell (by assumption) (by assumption) (by first | ((repeat (first | exact List.mem_cons_self | apply List.mem_cons_of_mem)); all_goals fail) | fail) (by first | assumption | ((repeat (first | exact Bl.Upd.head | apply Bl.Upd.tail)); all_goals fail) | fail) (fun _ _ => ?_)))
local macro_rules | `(tactic| walk_at "b_st") => `(tactic| (with_reducible show wpAny _ _ (truthy (.int _ _)) _ _ _; first
    | with_reducible refine PyProof.Rows.truthy_int ?_))
local macro_rules | `(tactic| walk_at "b_st") => `(tactic| (with_reducible show wpAny _ _ (truthy (.bool _)) _ _ _; first
    | with_reducible refine wpAny_truthy_bool ?_))
local macro_rules | `(tactic| walk_at "b_st") => `(tactic| (with_reducible show wpAny _ _ (unaryOp .USub (.int _ _)) _ _ _; first
    | with_reducible refine w_neg (by assumption) (fun _ _ _ => ?_)))
local macro_rules | `(tactic| walk_at "b_st") => `(tactic| (with_reducible show wpAny _ _ (unaryOp .Not (.bool _)) _ _ _; first
    | with_reducible refine w_notb ?_))
local macro_rules | `(tactic| walk_at "b_st") => `(tactic| (with_reducible show wpAny _ _ (inplaceOp .Sub (.int _ _) (.int _ _)) _ _ _; first
    | with_reducible refine w_isub (by assumption) (fun _ _ _ => ?_)))
local macro_rules | `(tactic| walk_at "b_st") => `(tactic| (with_reducible show wpAny _ _ (inplaceOp .Add (.int _ _) (.int _ _)) _ _ _; first
    | with_reducible refine w_iadd (by assumption) (fun _ _ _ => ?_)))
local macro_rules | `(tactic| walk_at "b_st") => `(tactic| (with_reducible show wpAny _ _ (binaryOp .BitOr (.int _ _) (.int _ _)) _ _ _; first
    | with_reducible refine w_or (by assumption) (fun _ _ _ => ?_)))
local macro_rules | `(tactic| walk_at "b_st") => `(tactic| (with_reducible show wpAny _ _ (binaryOp .BitAnd (.int _ _) (.int _ _)) _ _ _; first
    | with_reducible refine w_and (by assumption) (fun _ _ _ => ?_)))
local macro_rules | `(tactic| walk_at "b_st") => `(tactic| (with_reducible show wpAny _ _ (binaryOp .Sub (.int _ _) (.int _ _)) _ _ _; first
    | with_reducible refine w_sub (by assumption) (fun _ _ _ => ?_)))
local macro_rules | `(tactic| walk_at "b_st") => `(tactic| (with_reducible show wpAny _ _ (binaryOp .Add (.int _ _) (.int _ _)) _ _ _; first
    | with_reducible refine w_add (by assumption) (fun _ _ _ => ?_)))
local macro_rules | `(tactic| walk_at "b_st") => `(tactic| (with_reducible show wpAny _ _ (callWith _ (.ref _) _ (backTo _ (starEach [] _)) _) _ _ _; first
    | with_reducible refine x_cwK0 ?_ (by with_unfolding_all rfl)))
local macro_rules | `(tactic| walk_at "b_st") => `(tactic| (with_reducible show wpAny _ _ (callWith _ (.ref _) _ (backTo _ (starEach (_ :: _) _)) _) _ _ _; first
    | with_reducible refine x_cwK ?_ (by with_unfolding_all rfl)))
local macro_rules | `(tactic| walk_at "b_st") => `(tactic| (with_reducible show wpAny _ _ (callWith _ (.type _) _ (backTo _ (starEach [] _)) _) _ _ _; first
    | with_reducible refine w_cwT0 ?_))
local macro_rules | `(tactic| walk_at "b_st") => `(tactic| (with_reducible show wpAny _ _ (callWith _ (.type _) _ (backTo _ (starEach (_ :: _) _)) _) _ _ _; first
    | with_reducible refine x_cwT ?_))
local macro_rules | `(tactic| walk_at "b_st") => `(tactic| (with_reducible show wpAny _ _ (callWith _ (.builtin _) _ (backTo _ (starEach [] _)) _) _ _ _; first
    | with_reducible refine w_cwB0 ?_))
local macro_rules | `(tactic| walk_at "b_st") => `(tactic| (with_reducible show wpAny _ _ (callWith _ (.builtin _) _ (backTo _ (starEach (_ :: _) _)) _) _ _ _; first
    | with_reducible refine x_cwB ?_))
local macro_rules | `(tactic| walk_at "b_st") => `(tactic| (with_reducible show wpAny _ _ (evalAll ((backToKw _ (keywordEach (_ :: _) _)).map _)) _ _ _; first
    | with_reducible refine kwAll_cons ?_))
local macro_rules | `(tactic| walk_at "b_st") => `(tactic| (with_reducible show wpAny _ _ (evalAll ((backToKw _ (keywordEach [] _)).map _)) _ _ _; first
    | with_reducible refine kwAll_nil ?_))
local macro_rules | `(tactic| walk_at "b_st") => `(tactic| (with_reducible show wpAny _ _ (spliced (backTo _ (starEach (_ :: _) _))) _ _ _; first
    | with_reducible refine x_More ?_))
local macro_rules | `(tactic| walk_at "b_st") => `(tactic| (with_reducible show wpAny _ _ (spliced (backTo _ (starEach [] _))) _ _ _; first
    | with_reducible refine spliced_none ?_))
local macro_rules | `(tactic| walk_at "b_st") => `(tactic| (with_reducible show (if ((!false) = true) then _ else _); with_reducible refine ite_nf ?_))
local macro_rules | `(tactic| walk_at "b_st") => `(tactic| (with_reducible show (if ((!true) = true) then _ else _); with_reducible refine ite_nt ?_))
local macro_rules | `(tactic| walk_at "b_st") => `(tactic| (with_reducible show (if (false = true) then _ else _); with_reducible refine ite_f ?_))
local macro_rules | `(tactic| walk_at "b_st") => `(tactic| (with_reducible show (if (true = true) then _ else _); with_reducible refine ite_t ?_))
local macro_rules | `(tactic| walk_at "b_st") => `(tactic| (with_reducible show wpAny _ _ (testsOf [_] _) _ _ _; first
    | with_reducible refine w_tests1 ?_))
local macro_rules | `(tactic| walk_at "b_st") => `(tactic| (with_reducible show wpAny _ _ (testsOf [] _) _ _ _; first
    | with_reducible refine w_tests0 ?_))
local macro_rules | `(tactic| walk_at "b_st") => `(tactic| (with_reducible show (∃ σ, Bl.Rep _ σ _) ∧ _; refine ⟨⟨_, by assumption⟩, ?_⟩))
local macro_rules | `(tactic| walk_at "b_st") => `(tactic| (with_reducible show (if (!_ == Value.none) = true then _ else _); first | refine iteT (by with_unfolding_all rfl) ?_ | refine iteF (by with_unfolding_all rfl) ?_))
local macro_rules | `(tactic| walk_at "b_st") => `(tactic| (with_reducible show (if (_ == Value.none) = true then _ else _); first | refine iteT (by with_unfolding_all rfl) ?_ | refine iteF (by with_unfolding_all rfl) ?_))
local macro_rules | `(tactic| walk_at "b_st") => `(tactic| (with_reducible show wpAny _ _ (compareOp _ _ _) _ _ _; walk_at "b_x8"))
local macro_rules | `(tactic| walk_at "b_st") => `(tactic| (with_reducible show wpAny _ _ (getMethod _ _ _) _ _ _; walk_at "b_x7"))
local macro_rules | `(tactic| walk_at "b_st") => `(tactic| (with_reducible show wpAny _ _ (setAttr _ _ _) _ _ _; walk_at "b_x6"))
local macro_rules | `(tactic| walk_at "b_st") => `(tactic| (with_reducible show wpAny _ _ (getAttr _ _ _) _ _ _; walk_at "b_x5"))
local macro_rules | `(tactic| walk_at "b_st") => `(tactic| (with_reducible show wpAny _ _ (eval _ _) _ _ _; walk_at "b_x4"))
local macro_rules | `(tactic| walk_at "b_st") => `(tactic| (with_reducible show wpAny _ _ (PySem.isTrue _ _ _) _ _ _; walk_at "b_x3"))
local macro_rules | `(tactic| walk_at "b_st") => `(tactic| (with_reducible show wpAny _ _ (exec _ _) _ _ _; walk_at "b_x2"))
local macro_rules | `(tactic| walk_at "b_st") => `(tactic| (with_reducible show wpAny _ _ (execs _ _) _ _ _; walk_at "b_x1"))
local macro_rules | `(tactic| walk_at "b_go") => `(tactic| repeat walk_at "b_st")

namespace Bl
section
variable {G : Gd hd.heap_39} {A : Around} {E : Value → Shared → Prop} {σ τ : Led} {s : Shared} {env : Env}

theorem IsHash.here {f : Addr} {salt : Int} (h : IsHash G σ f salt) (R : Rep G σ s) : ∃ o fd, s.heap.get? f = some o ∧ o.data = .func fd := by
  obtain ⟨c, h1, h2⟩ := h.fn
  obtain ⟨o, ho, hc⟩ := R.cellH h1
  obtain ⟨fd, hd⟩ := h2 o hc
  exact ⟨o, fd, ho, hd⟩
theorem sp_hashes {x b f dx : Addr} {m est n salt : Int} {k : Nat} {y : Str} {t : Tok} {c : Nat} {R' : Result → Shared → Prop} (R : Rep G σ s) (hm : Holds G σ x (obj 445 dx (cbf b f m k est n))) (hdx : Holds G σ dx isAny) (hf : IsHash G σ f salt)
    (hroom : A.depth + 2 < recursionLimit) (hh : A.handled = none) (hy : y.cps[0]? = some c) (hk : k ≤ 1000)
    (h : ∀ D s', Rep G ((D, isInts (placesOf c salt k)) :: σ) s' → R' (.ok (.ret (.ref D))) s') :
    codeAny (model G.prog G.w) A (.call (.ref 241) ⟨[.ref x, .str y t], []⟩) R' s := by
  refine c_K [("self", .ref x), ("key", .str y t), ("depth", .none)] [("self", some (.ref x)), ("key", some (.str y t)), ("depth", some .none), ("tmp", none)] R (by omega) rfl (fun X => kp_binds X (fun _ => by kernel_rfl)) (fun L s' env R he hf' hfn => ?_)
  have hm' := hm.tail (p := (L, isNs [("self", some (.ref x)), ("key", some (.str y t)), ("depth", some .none), ("tmp", none)]))
  walk_at "b_go"
  refine x_cwF ?_
  walk_at "b_go"
  exact ⟨(hf.mono Sub.refl.cons).here (by assumption), x_callM ((hf.mono Sub.refl.cons).run Sub.refl (by assumption) (b_room (k := 1) (by omega)) hh hy hk (fun D s₂ R₂ => h _ _ (R₂.sel (by walk_at "b_sel"))))⟩
end
end Bl


namespace Bl
section
variable {G : Gd hd.heap_39} {A : Around} {E : Value → Shared → Prop} {σ τ : Led} {s : Shared} {env : Env}

abbrev U32 : Int := 4294967295
def addAt (ns : List Int) (ks : List Nat) (a : Int) : List Int := ks.foldl (fun ns k => ns.set k (min (ns.getD k 0 + a) U32)) ns

theorem addAt_len {a : Int} : ∀ {ks : List Nat} {ns : List Int}, (addAt ns ks a).length = ns.length
  | [], _ => rfl
  | k :: ks, ns => by
    show (addAt (ns.set k _) ks a).length = _
    rw [addAt_len]; simp
theorem addAt_get {a : Int} {j : Nat} : ∀ {ks : List Nat} {ns : List Int}, j ∉ ks → (addAt ns ks a).getD j 0 = ns.getD j 0
  | [], _, _ => rfl
  | k :: ks, ns, h => by
    have h1 : k ≠ j := fun q => h (q ▸ List.mem_cons_self)
    show (addAt (ns.set k _) ks a).getD j 0 = _
    rw [addAt_get (fun q => h (.tail _ q))]
    simp [List.getD_eq_getElem?_getD, List.getElem?_set_ne h1]
theorem addAt_take {a : Int} {ks : List Nat} {ns : List Int} {i : Nat} (hi : i < ks.length) (hnd : ks.Nodup) : addAt ns (ks.take (i + 1)) a = (addAt ns (ks.take i) a).set ks[i] (min (ns.getD ks[i] 0 + a) U32) := by
  have e1 : ks[i]? = some ks[i] := by simp [hi]
  have hn : ks[i] ∉ ks.take i := fun hm => by
    obtain ⟨j, hj, e⟩ := List.mem_take_iff_getElem.mp hm
    have : j = i := nodup_inj hnd (i := j) (j := i) (a := ks[i]) (by rw [List.getElem?_eq_getElem (by omega), e]) e1
    omega
  rw [List.take_succ, e1]
  show addAt ns (ks.take i ++ [ks[i]]) a = _
  unfold addAt
  rw [List.foldl_append]
  show List.set _ _ (min ((addAt ns (ks.take i) a).getD ks[i] 0 + a) U32) = _
  rw [addAt_get hn]
theorem not_in_take {ks : List Nat} {i : Nat} (hi : i < ks.length) (hnd : ks.Nodup) : ks[i] ∉ ks.take i := fun hm => by
  obtain ⟨j, hj, e⟩ := List.mem_take_iff_getElem.mp hm
  have : j = i := nodup_inj hnd (i := j) (j := i) (a := ks[i]) (by rw [List.getElem?_eq_getElem (by omega), e]) (by simp [hi])
  omega
theorem vs_step {f g : Nat → Int} {ks : List Nat} {i : Nat} (hi : i < ks.length) : (((ks.take i).map f) ++ ((ks.drop i).map g)).set i (f ks[i]) = ((ks.take (i + 1)).map f) ++ ((ks.drop (i + 1)).map g) := by
  have hl : ((ks.take i).map f).length = i := by simp [Nat.min_eq_left (Nat.le_of_lt hi)]
  rw [List.set_append_right _ _ (by omega), hl, Nat.sub_self, List.drop_eq_getElem_cons hi, List.map_cons, List.set_cons_zero, List.take_succ, List.getElem?_eq_getElem hi, Option.toList_some, List.map_append, List.append_assoc]
  rfl
theorem vs_same {f g : Nat → Int} {ks : List Nat} {i : Nat} (hi : i < ks.length) (e : f ks[i] = g ks[i]) : ((ks.take i).map f) ++ ((ks.drop i).map g) = ((ks.take (i + 1)).map f) ++ ((ks.drop (i + 1)).map g) := by
  rw [List.drop_eq_getElem_cons hi, List.map_cons, List.take_succ, List.getElem?_eq_getElem hi, ← e, Option.toList_some, List.map_append, List.append_assoc]
  rfl
theorem sp_add_alt {x b f D dx : Addr} {m k : Nat} {est n a : Int} {t : Tok} {ns hs : List Int} {ks : List Nat} {R' : Result → Shared → Prop} (R : Rep G ((x, obj 445 dx (cbf b f m k est n)) :: (b, isInts ns) :: τ) s) (hD : Holds G τ D (isInts hs)) (hdx : Holds G τ dx isAny)
    (hroom : A.depth + 1 < recursionLimit) (hh : A.handled = none) (hm : m = ns.length) (hm0 : 0 < m) (hm1 : m ≤ 1000) (hk : k = ks.length) (hk0 : 0 < k) (hk1 : k ≤ 1000)
    (hks : hs.map (fun v => v.fmod m) = ks.map (fun (j : Nat) => (j : Int))) (hnd : ks.Nodup) (ha : 0 ≤ a) (hns : ∀ v ∈ ns, 0 ≤ v ∧ v ≤ U32)
    (h : ∀ M t s', least (ks.map fun j => min (ns.getD j 0 + a) U32) M → Rep G ((x, obj 445 dx (cbf b f m k est (min (n + a) 18446744073709551615))) :: (b, isInts (addAt ns ks a)) :: τ) s' → R' (.ok (.ret (.int M t))) s') :
    codeAny (model G.prog G.w) A (.call (.ref 392) ⟨[.ref x, .ref D, .int a t], []⟩) R' s := by
  refine c_KC [("self", .ref x), ("hashes", .ref D), ("num_els", .int a t)] [("i", none), ("indices", none), ("k", none), ("vals", none), ("v", none)] ["num_els", "hashes", "self"] R (by omega) rfl (fun X => kp_binds X (fun _ => by kernel_rfl)) (fun L s' env cl hcl R he hf hfn => ?_)
  revert cl
  refine cells3 fun ca cd cx R he => ?_
  replace R : Rep G ((L, isNs [("i", none), ("indices", none), ("k", none), ("vals", none), ("v", none)]) :: (ca, isCell (some (.int a t))) :: (cd, isCell (some (.ref D))) :: (cx, isCell (some (.ref x))) :: (x, obj 445 dx (cbf b f m k est n)) :: (b, isInts ns) :: τ) s' := R
  have hlen : hs.length = ks.length := by have := congrArg List.length hks; simpa using this
  have hget : ∀ i, i < k → ∃ v j, hs[i]? = some v ∧ ks[i]? = some j ∧ v.fmod m = (j : Int) := fun i hi => by
    have h1 : i < hs.length := by omega
    have h2 : i < ks.length := by omega
    refine ⟨hs[i], ks[i], by simp [h1], by simp [h2], ?_⟩
    have := congrArg (fun l => l[i]?) hks
    simpa [h1, h2] using this
  have hj : ∀ j ∈ ks, j < ns.length := fun j hj => by
    have : (j : Int) ∈ hs.map (fun v => v.fmod m) := by rw [hks]; exact List.mem_map_of_mem hj
    obtain ⟨v, _, e⟩ := List.mem_map.mp this
    have := Int.fmod_lt_of_pos v (show (0 : Int) < m by omega)
    omega
  walk_at "b_go"
  refine w_AssignComp (fun o => [(Str.ofString ".0", none), (Str.ofString "i", o)]) none hh he rfl ?_
  walk_at "b_go"
  refine w_iterRange (n := k) (by assumption) (by walk_at "b_mem") (by omega) (by omega) (by omega) (fun it s₁ hn R₁ => ?_)
  refine ⟨it, _, k, _, _, _, fun i acc σ' => σ' = (L, isNs [("i", none), ("indices", none), ("k", none), ("vals", none), ("v", none)]) :: (ca, isCell (some (.int a t))) :: (cd, isCell (some (.ref D))) :: (cx, isCell (some (.ref x))) :: (x, obj 445 dx (cbf b f m k est n)) :: (b, isInts ns) :: τ ∧ IntsAre acc ((ks.take i).map fun (j : Nat) => (j : Int)), rfl, Iter.range hn _ _ _, R₁.sel (by walk_at "b_sel"), ⟨rfl, .nil⟩, fun _ _ _ _ => trivial, by rw [sizeLine_eq]; omega, ?_, ?_⟩
  · rintro E' C D' cenv o i acc σ' s₂ v' he' hi ⟨t', rfl⟩ ⟨rfl, hacc⟩ R₂
    obtain ⟨v, j, h1, h2, h3⟩ := hget i hi
    have hD2 : Holds G τ D (isInts hs) := hD
    walk_at "b_go"
    refine w_itemI (n := v) (by assumption) (by walk_at "b_mem") (by omega) (by simpa using h1) (by omega) (fun _ => ?_)
    walk_at "b_go"
    refine w_mod (by assumption) (by omega) (fun _ _ _ => ?_)
    refine ⟨_, _, by assumption, rfl, ?_⟩
    rw [List.take_succ, h2]
    simp only [Option.toList_some, List.map_append, List.map_cons, List.map_nil]
    have q := fun t => ints_snoc hacc (j : Int) t
    rw [h3]
    exact q _
  · rintro I acc σ' s₂ ⟨rfl, hacc⟩ R₂
    rw [List.take_of_length_le (by omega)] at hacc
    refine ⟨_, _, (L, isNs [("i", none), ("indices", some (.ref I)), ("k", none), ("vals", none), ("v", none)]) :: (ca, isCell (some (.int a t))) :: (cd, isCell (some (.ref D))) :: (cx, isCell (some (.ref x))) :: (x, obj 445 dx (cbf b f m k est n)) :: (b, isInts ns) :: τ, by walk_at "b_upd", by walk_at "b_put", fun s₃ R₃ => ?_⟩
    replace R₃ := R₃.toInts hacc
    have R₄ : Rep G ((L, isNs [("i", none), ("indices", some (.ref I)), ("k", none), ("vals", none), ("v", none)]) :: (I, isInts (ks.map fun (j : Nat) => (j : Int))) :: (ca, isCell (some (.int a t))) :: (cd, isCell (some (.ref D))) :: (cx, isCell (some (.ref x))) :: (x, obj 445 dx (cbf b f m k est n)) :: (b, isInts ns) :: τ) s₃ := R₃.sel (by walk_at "b_sel")
    clear R₃ R₂ R₁
    walk_at "b_go"
    refine w_AssignComp (fun o => [(Str.ofString ".0", none), (Str.ofString "k", o)]) none hh he rfl ?_
    walk_at "b_go"
    refine w_iterInts (by assumption) (by walk_at "b_mem") (fun it s₄ hn R₅ => ?_)
    refine ⟨it, _, _, _, _, _, fun i acc σ' => σ' = (L, isNs [("i", none), ("indices", some (.ref I)), ("k", none), ("vals", none), ("v", none)]) :: (I, isInts (ks.map fun (j : Nat) => (j : Int))) :: (ca, isCell (some (.int a t))) :: (cd, isCell (some (.ref D))) :: (cx, isCell (some (.ref x))) :: (x, obj 445 dx (cbf b f m k est n)) :: (b, isInts ns) :: τ ∧ IntsAre acc ((ks.take i).map fun j => ns.getD j 0 + a), rfl, Iter.ints hn, R₅, ⟨rfl, .nil⟩, fun _ _ _ q => (by rw [q.1]; walk_at "b_mem"), by rw [sizeLine_eq]; simp; omega, ?_, ?_⟩
    · rintro E' C D' cenv o i acc σ' s₂ v' he' hi ⟨j', t', hj', rfl⟩ ⟨rfl, hacc⟩ R₂
      have hi' : i < ks.length := by simpa using hi
      have e1 : ks[i]? = some ks[i] := by simp [hi']
      have hjn : ks[i] < ns.length := hj _ (List.getElem_mem _)
      have e2 : j' = (ks[i] : Int) := by rw [List.getElem?_map, e1] at hj'; simpa using hj'.symm
      subst e2
      walk_at "b_go"
      refine w_itemI (n := ns[ks[i]]) (by assumption) (by walk_at "b_mem") (by omega) (by simp [hjn]) (by omega) (fun _ => ?_)
      walk_at "b_go"
      refine ⟨_, _, by assumption, rfl, ?_⟩
      rw [List.take_succ, e1]
      simp only [Option.toList_some, List.map_append, List.map_cons, List.map_nil]
      have q := fun t => ints_snoc hacc (ns[ks[i]] + a) t
      rw [show ns.getD ks[i] 0 = ns[ks[i]] by simp [hjn]]
      exact q _
    · rintro V acc σ' s₂ ⟨rfl, hacc⟩ R₂
      rw [List.take_of_length_le (by simp)] at hacc
      refine ⟨_, _, (L, isNs [("i", none), ("indices", some (.ref I)), ("k", none), ("vals", some (.ref V)), ("v", none)]) :: (I, isInts (ks.map fun (j : Nat) => (j : Int))) :: (ca, isCell (some (.int a t))) :: (cd, isCell (some (.ref D))) :: (cx, isCell (some (.ref x))) :: (x, obj 445 dx (cbf b f m k est n)) :: (b, isInts ns) :: τ, by walk_at "b_upd", by walk_at "b_put", fun s₃ R₃ => ?_⟩
      replace R₃ := R₃.toInts hacc
      have R₆ : Rep G ((L, isNs [("i", none), ("indices", some (.ref I)), ("k", none), ("vals", some (.ref V)), ("v", none)]) :: (I, isInts (ks.map fun (j : Nat) => (j : Int))) :: (V, isInts (ks.map fun j => ns.getD j 0 + a)) :: (ca, isCell (some (.int a t))) :: (cd, isCell (some (.ref D))) :: (cx, isCell (some (.ref x))) :: (x, obj 445 dx (cbf b f m k est n)) :: (b, isInts ns) :: τ) s₃ := R₃.sel (by walk_at "b_sel")
      clear R₃ R₂ R₅ R₄
      walk_at "b_go"
      refine w_enum (l := V) (by assumption) (by walk_at "b_mem") (fun e it s₄ R₇ h1 h2 => ?_)
      refine w_iterEnum R₇ ?_
      clear R₆
      refine w_forEnum (l := V) ks.length (fun i => ns.getD (ks.getD i 0) 0 + a) (fun i σ' => ∃ o1 o2 o3, σ' = (fun o1 o2 o3 i => (L, isNs [("i", o1), ("indices", some (.ref I)), ("k", o2), ("vals", some (.ref V)), ("v", o3)]) :: (I, isInts (ks.map fun (j : Nat) => (j : Int))) :: (V, isInts (((ks.take i).map fun j => min (ns.getD j 0 + a) U32) ++ ((ks.drop i).map fun j => ns.getD j 0 + a))) :: (ca, isCell (some (.int a t))) :: (cd, isCell (some (.ref D))) :: (cx, isCell (some (.ref x))) :: (x, obj 445 dx (cbf b f m k est n)) :: (b, isInts (addAt ns (ks.take i) a)) :: τ : Option Value → Option Value → Option Value → Nat → Led) o1 o2 o3 i) hh ⟨h1, h2⟩ R₇ ⟨none, none, none, by simp [addAt]⟩ ?_ ?_ ?_
      · rintro i σ' ⟨o1, o2, o3, rfl⟩
        refine ⟨_, by walk_at "b_mem", by simp; omega, fun hi => ?_⟩
        rw [List.getElem?_append_right (by simp; omega)]
        simp [hi, Nat.min_eq_left (Nat.le_of_lt hi)]
      · rintro E' i σ' s₂ t1 u1 hi ⟨o1, o2, o3, rfl⟩ R₈
        have e1 : ks.getD i 0 = ks[i] := by simp [hi]
        have hjn : ks[i] < ns.length := hj _ (List.getElem_mem _)
        walk_at "b_go"
        refine w_itemI (n := (ks[i] : Int)) (l := I) (by assumption) (by walk_at "b_mem") (by omega) (by simp [hi]) (by omega) (fun _ => ?_)
        walk_at "b_go"
        refine ite_dec (fun hgt => ?_) (fun hle => ?_)
        · rw [e1] at hgt
          walk_at "b_go"
          refine w_setItemI (l := b) (by assumption) (by walk_at "b_upd") (by omega) (by rw [addAt_len]; omega) (by omega) (fun _ _ => ?_)
          walk_at "b_go"
          refine w_setItemI (l := V) (by assumption) (by walk_at "b_upd") (by omega) (by simp; omega) (by omega) (fun s₆ R₉ => ?_)
          walk_at "b_go"
          have hmin : min (ns.getD ks[i] 0 + a) U32 = 4294967295 := by
            have : U32 = 4294967295 := rfl
            omega
          have q := vs_step (f := fun j => min (ns.getD j 0 + a) U32) (g := fun j => ns.getD j 0 + a) hi
          have q2 := addAt_take (ns := ns) (a := a) hi hnd
          rw [hmin] at q q2
          try dsimp only at R₉
          rw [Int.toNat_natCast, Int.toNat_natCast, q, ← q2] at R₉
          exact ⟨_, R₉, _, _, _, rfl⟩
        · rw [e1] at hle
          have hjv : ns.getD ks[i] 0 = ns[ks[i]] := by simp [hjn]
          have h0 := hns _ (List.getElem_mem hjn)
          have hgb : (addAt ns (ks.take i) a)[ks[i]]? = some ns[ks[i]] := by
            have h1 := addAt_get (a := a) (ns := ns) (not_in_take hi hnd)
            have h2 : ks[i] < (addAt ns (ks.take i) a).length := by rw [addAt_len]; exact hjn
            rw [List.getElem?_eq_getElem h2]
            rw [hjv] at h1
            simpa [h2] using h1
          walk_at "b_go"
          refine w_itemI (n := ns[ks[i]]) (l := b) (by assumption) (by walk_at "b_mem") (by omega) (by simpa using hgb) (by omega) (fun _ => ?_)
          walk_at "b_go"
          refine ite_dec (fun _ => ?_) (fun q => absurd (show 0 ≤ ns[ks[i]] + a by omega) q)
          walk_at "b_go"
          rw [show decide (ns[ks[i]] + a ≤ 4294967295) = true from decide_eq_true (by rw [hjv] at hle; omega)]
          walk_at "b_go"
          refine w_getItemI (n := ns[ks[i]]) (l := b) (by assumption) (by walk_at "b_mem") (by omega) (by simpa using hgb) (by omega) (fun _ => ?_)
          walk_at "b_go"
          refine w_setItemI (l := b) (by assumption) (by walk_at "b_upd") (by omega) (by rw [addAt_len]; omega) (by omega) (fun s₆ R₉ => ?_)
          walk_at "b_go"
          have hmin : min (ns.getD ks[i] 0 + a) U32 = ns[ks[i]] + a := by
            rw [hjv] at hle ⊢
            have : U32 = 4294967295 := rfl
            omega
          have q := vs_same (f := fun j => min (ns.getD j 0 + a) U32) (g := fun j => ns.getD j 0 + a) hi (by rw [hmin, hjv])
          have q2 := addAt_take (ns := ns) (a := a) hi hnd
          rw [hmin] at q2
          try dsimp only at R₉
          rw [Int.toNat_natCast, q, ← q2] at R₉
          exact ⟨_, R₉, _, _, _, rfl⟩
      · rintro σ' s₂ ⟨o1, o2, o3, rfl⟩ R₈
        dsimp only at R₈
        rw [List.take_of_length_le (show ks.length ≤ ks.length from Nat.le_refl _), List.drop_length, List.map_nil, List.append_nil] at R₈
        walk_at "b_go"
        refine w_minL (l := V) hh (by assumption) (by walk_at "b_mem") (by intro q; have q' : ks = [] := (by simpa using q); rw [q'] at hk; exact absurd hk (Nat.ne_of_gt hk0)) (fun M t₂ s₅ hM R₉ => ?_)
        walk_at "b_go"
        exact h M t₂ s₅ hM (R₉.sel (by walk_at "b_sel"))
end
end Bl


namespace Bl
section
variable {G : Gd hd.heap_39} {A : Around} {E : Value → Shared → Prop} {σ τ : Led} {s : Shared} {env : Env}

theorem x_minS {v : Value} {vals : List Int} {fin : Shared → Prop} {args : List Value} {Q : Value → Shared → Prop} (S : IntSrc G A v vals fin s) (hne : vals ≠ []) (h : ∀ M t s', least vals M → fin s' → Q (.int M t) s') (ha : args = [v] := by with_unfolding_all rfl) :
    wpAny (model G.prog G.w) A (call (.builtin "min") args) Q E s := by subst ha; exact w_minS S hne h

theorem sp_check_alt {x b f D dx : Addr} {m k : Nat} {est n : Int} {ns hs : List Int} {ks : List Nat} {R' : Result → Shared → Prop} (R : Rep G σ s) (hX : Holds G σ x (obj 445 dx (cbf b f m k est n))) (hB : Holds G σ b (isInts ns)) (hD : Holds G σ D (isInts hs)) (hdx : Holds G σ dx isAny)
    (hg : 401 ∈ G.gtabs) (hgp : G.gensP = AllBare)
    (hroom : A.depth + 3 < recursionLimit) (hh : A.handled = none) (hm : m = ns.length) (hm0 : 0 < m) (hm1 : m ≤ 1000) (hk0 : 0 < ks.length)
    (hks : hs.map (fun v => v.fmod m) = ks.map (fun (j : Nat) => (j : Int)))
    (h : ∀ M t s', least (ks.map fun j => ns.getD j 0) M → Rep G σ s' → R' (.ok (.ret (.int M t))) s') :
    codeAny (model G.prog G.w) A (.call (.ref 406) ⟨[.ref x, .ref D], []⟩) R' s := by
  refine c_KC [("self", .ref x), ("hashes", .ref D)] [("hashes", some (.ref D))] ["self"] R (by omega) rfl (fun X => kp_binds X (fun _ => by kernel_rfl)) (fun L s' env cl hcl R he hf hfn => ?_)
  revert cl
  refine cells1 fun cx R he => ?_
  replace R : Rep G ((L, isNs [("hashes", some (.ref D))]) :: (cx, isCell (some (.ref x))) :: σ) s' := R
  have hlen : hs.length = ks.length := by have := congrArg List.length hks; simpa using this
  have hget : ∀ (i : Nat) (v : Int), hs[i]? = some v → ∃ j : Nat, ks[i]? = some j ∧ v.fmod m = (j : Int) := fun i v hv => by
    obtain ⟨h1, e⟩ := List.getElem?_eq_some_iff.mp hv
    have h2 : i < ks.length := by omega
    refine ⟨ks[i], by simp [h2], ?_⟩
    have := congrArg (fun l => l[i]?) hks
    simpa [h1, h2, e] using this
  have hj : ∀ j ∈ ks, j < ns.length := fun j hj => by
    have : (j : Int) ∈ hs.map (fun v => v.fmod m) := by rw [hks]; exact List.mem_map_of_mem hj
    obtain ⟨v, _, e⟩ := List.mem_map.mp this
    have := Int.fmod_lt_of_pos v (show (0 : Int) < m by omega)
    omega
  walk_at "b_go"
  refine w_gen (T := 401) (fun _ => true) (fun i => ns.getD (ks.getD i 0) 0) hh he (by rw [dd]; omega) rfl hg hgp ?_
  walk_at "b_go"
  refine wk_list R (by walk_at "b_mem") (fun I s₁ R₁ W => ?_)
  refine ⟨I, _, _, _, _, rfl, R₁, W, ?_, fun a s₅ S R₅ => ?_⟩
  · intro G' A' E' i v C cenv s₃ cd' hw hA' hD' hU' hP he' hC hall R₃
    obtain ⟨v', t', hv', rfl⟩ := hP
    obtain ⟨j, hj1, hj2⟩ := hget i v' hv'
    have hjn : j < ns.length := hj _ (List.mem_of_getElem? hj1)
    rw [dd] at hD'
    have hr : A'.depth + 1 < recursionLimit := by omega
    have q1 : Holds G' [] cx (isCell (some (.ref x))) := .base (hall _ _ (Holds.head.tail))
    have q2 : Holds G' [] x (obj 445 dx (cbf b f m k est n)) := .base (hall _ _ hX.tail.tail)
    have q3 : Holds G' [] b (isInts ns) := .base (hall _ _ hB.tail.tail)
    have q5 : Holds G' [] dx isAny := .base (hall _ _ hdx.tail.tail)
    have q4 : Holds G' [] C (hasName "x" (.int v' t')) := .base hC
    refine ⟨w_tests0 ⟨rfl, _, R₃⟩, fun _ => ?_⟩
    refine Subscript_ ?_
    walk_at "b_go"
    refine w_localB (by assumption) he' q4 ?_
    walk_at "b_go"
    refine w_mod (by assumption) (by omega) (fun _ _ _ => ?_)
    rw [hj2]
    refine w_itemI (n := ns[j]) (l := b) (by assumption) q3 (by omega) (by simp [hjn]) (by omega) (fun _ => ?_)
    have e : ns[j] = ns.getD (ks.getD i 0) 0 := by simp [List.getD_eq_getElem?_getD, hj1, hjn]
    exact ⟨⟨_, congrArg (Value.int · _) e⟩, _, by assumption⟩
  · walk_at "b_go"
    have e : (((List.range hs.length).filter fun _ => true).map fun i => ns.getD (ks.getD i 0) 0) = ks.map fun j => ns.getD j 0 := by
      rw [List.filter_eq_self.mpr (fun _ _ => rfl)]
      refine List.ext_getElem (by simp [hlen]) fun i h1 h2 => ?_
      simp only [List.length_map, List.length_range] at h1 h2
      simp [h2]
    rw [e] at S
    refine x_minS S (by intro q; have q' : ks = [] := (by simpa using q); rw [q'] at hk0; exact absurd hk0 (Nat.lt_irrefl _)) (fun M t₂ s₆ hM R₆ => ?_)
    walk_at "b_go"
    exact h M t₂ s₆ hM (R₆.sel (by walk_at "b_sel"))
end
end Bl


namespace Bl
section
variable {G : Gd hd.heap_39} {A : Around} {E : Value → Shared → Prop} {σ τ : Led} {s : Shared} {env : Env}

def subAt (ns : List Int) (ks : List Nat) (g : Int) : List Int := ks.foldl (fun ns k => if ns.getD k 0 < U32 then ns.set k (ns.getD k 0 - g) else ns) ns
theorem subAt_len {g : Int} : ∀ {ks : List Nat} {ns : List Int}, (subAt ns ks g).length = ns.length
  | [], _ => rfl
  | k :: ks, ns => by
    show (subAt (if _ then _ else _) ks g).length = _
    rw [subAt_len]; split <;> simp
theorem subAt_get {g : Int} {j : Nat} : ∀ {ks : List Nat} {ns : List Int}, j ∉ ks → (subAt ns ks g).getD j 0 = ns.getD j 0
  | [], _, _ => rfl
  | k :: ks, ns, h => by
    have h1 : k ≠ j := fun q => h (q ▸ List.mem_cons_self)
    show (subAt (if _ then _ else _) ks g).getD j 0 = _
    rw [subAt_get (fun q => h (.tail _ q))]
    split
    · simp [List.getD_eq_getElem?_getD, List.getElem?_set_ne h1]
    · rfl
theorem subAt_take {g : Int} {ks : List Nat} {ns : List Int} {i : Nat} (hi : i < ks.length) (hnd : ks.Nodup) :
    subAt ns (ks.take (i + 1)) g = if ns.getD ks[i] 0 < U32 then (subAt ns (ks.take i) g).set ks[i] (ns.getD ks[i] 0 - g) else subAt ns (ks.take i) g := by
  have e1 : ks[i]? = some ks[i] := by simp [hi]
  rw [List.take_succ, e1]
  show subAt ns (ks.take i ++ [ks[i]]) g = _
  unfold subAt
  rw [List.foldl_append]
  show (if (subAt ns (ks.take i) g).getD ks[i] 0 < U32 then List.set _ _ ((subAt ns (ks.take i) g).getD ks[i] 0 - g) else _) = _
  rw [subAt_get (not_in_take hi hnd)]

theorem sp_remove_alt {x b f D dx : Addr} {m k : Nat} {est n a : Int} {t : Tok} {ns hs : List Int} {ks : List Nat} {R' : Result → Shared → Prop} (R : Rep G ((x, obj 445 dx (cbf b f m k est n)) :: (b, isInts ns) :: τ) s) (hD : Holds G τ D (isInts hs)) (hdx : Holds G τ dx isAny)
    (hroom : A.depth + 2 < recursionLimit) (hh : A.handled = none) (hm : m = ns.length) (hm0 : 0 < m) (hm1 : m ≤ 1000) (hk : k = ks.length) (hk0 : 0 < k) (hk1 : k ≤ 1000)
    (hks : hs.map (fun v => v.fmod m) = ks.map (fun (j : Nat) => (j : Int))) (hnd : ks.Nodup) (ha : 0 ≤ a) (hns : ∀ v ∈ ns, 0 ≤ v ∧ v ≤ U32)
    (h : ∀ M t s' ns' n' r, least (ks.map fun j => ns.getD j 0) M → ((M = U32 ∨ M = 0) ∧ ns' = ns ∧ n' = n ∧ r = M ∨ (M ≠ U32 ∧ M ≠ 0) ∧ ns' = subAt ns ks (min a M) ∧ n' = n - min a M ∧ r = M - min a M) →
      Rep G ((x, obj 445 dx (cbf b f m k est n')) :: (b, isInts ns') :: τ) s' → R' (.ok (.ret (.int r t))) s') :
    codeAny (model G.prog G.w) A (.call (.ref 420) ⟨[.ref x, .ref D, .int a t], []⟩) R' s := by
  refine c_KC [("self", .ref x), ("hashes", .ref D), ("num_els", .int a t)] [("num_els", some (.int a t)), ("indices", none), ("k", none), ("vals", none), ("min_val", none), ("to_remove", none)] ["hashes", "self"] R (by omega) rfl (fun X => kp_binds X (fun _ => by kernel_rfl)) (fun L s' env cl hcl R he hf hfn => ?_)
  revert cl
  refine cells2 fun cd cx R he => ?_
  replace R : Rep G ((L, isNs [("num_els", some (.int a t)), ("indices", none), ("k", none), ("vals", none), ("min_val", none), ("to_remove", none)]) :: (cd, isCell (some (.ref D))) :: (cx, isCell (some (.ref x))) :: (x, obj 445 dx (cbf b f m k est n)) :: (b, isInts ns) :: τ) s' := R
  have hlen : hs.length = ks.length := by have := congrArg List.length hks; simpa using this
  have hget : ∀ i, i < k → ∃ v j, hs[i]? = some v ∧ ks[i]? = some j ∧ v.fmod m = (j : Int) := fun i hi => by
    have h1 : i < hs.length := by omega
    have h2 : i < ks.length := by omega
    refine ⟨hs[i], ks[i], by simp [h1], by simp [h2], ?_⟩
    have := congrArg (fun l => l[i]?) hks
    simpa [h1, h2] using this
  have hj : ∀ j ∈ ks, j < ns.length := fun j hj => by
    have : (j : Int) ∈ hs.map (fun v => v.fmod m) := by rw [hks]; exact List.mem_map_of_mem hj
    obtain ⟨v, _, e⟩ := List.mem_map.mp this
    have := Int.fmod_lt_of_pos v (show (0 : Int) < m by omega)
    omega
  walk_at "b_go"
  refine w_AssignComp (fun o => [(Str.ofString ".0", none), (Str.ofString "i", o)]) none hh he rfl ?_
  walk_at "b_go"
  refine w_iterRange (n := k) (by assumption) (by walk_at "b_mem") (by omega) (by omega) (by omega) (fun it s₁ hn R₁ => ?_)
  refine ⟨it, _, k, _, _, _, fun i acc σ' => σ' = (L, isNs [("num_els", some (.int a t)), ("indices", none), ("k", none), ("vals", none), ("min_val", none), ("to_remove", none)]) :: (cd, isCell (some (.ref D))) :: (cx, isCell (some (.ref x))) :: (x, obj 445 dx (cbf b f m k est n)) :: (b, isInts ns) :: τ ∧ IntsAre acc ((ks.take i).map fun (j : Nat) => (j : Int)), rfl, Iter.range hn _ _ _, R₁.sel (by walk_at "b_sel"), ⟨rfl, .nil⟩, fun _ _ _ _ => trivial, by rw [sizeLine_eq]; omega, ?_, ?_⟩
  · rintro E' C D' cenv o i acc σ' s₂ v' he' hi ⟨t', rfl⟩ ⟨rfl, hacc⟩ R₂
    obtain ⟨v, j, h1, h2, h3⟩ := hget i hi
    walk_at "b_go"
    refine w_itemI (n := v) (l := D) (by assumption) (by walk_at "b_mem") (by omega) (by simpa using h1) (by omega) (fun _ => ?_)
    walk_at "b_go"
    refine w_mod (by assumption) (by omega) (fun _ _ _ => ?_)
    refine ⟨_, _, by assumption, rfl, ?_⟩
    rw [List.take_succ, h2]
    simp only [Option.toList_some, List.map_append, List.map_cons, List.map_nil]
    have q := fun t => ints_snoc hacc (j : Int) t
    rw [h3]
    exact q _
  · rintro I acc σ' s₂ ⟨rfl, hacc⟩ R₂
    rw [List.take_of_length_le (by omega)] at hacc
    refine ⟨_, _, (L, isNs [("num_els", some (.int a t)), ("indices", some (.ref I)), ("k", none), ("vals", none), ("min_val", none), ("to_remove", none)]) :: (cd, isCell (some (.ref D))) :: (cx, isCell (some (.ref x))) :: (x, obj 445 dx (cbf b f m k est n)) :: (b, isInts ns) :: τ, by walk_at "b_upd", by walk_at "b_put", fun s₃ R₃ => ?_⟩
    replace R₃ := R₃.toInts hacc
    have R₄ : Rep G ((L, isNs [("num_els", some (.int a t)), ("indices", some (.ref I)), ("k", none), ("vals", none), ("min_val", none), ("to_remove", none)]) :: (I, isInts (ks.map fun (j : Nat) => (j : Int))) :: (cd, isCell (some (.ref D))) :: (cx, isCell (some (.ref x))) :: (x, obj 445 dx (cbf b f m k est n)) :: (b, isInts ns) :: τ) s₃ := R₃.sel (by walk_at "b_sel")
    clear R₃ R₂ R₁
    walk_at "b_go"
    refine w_AssignComp (fun o => [(Str.ofString ".0", none), (Str.ofString "k", o)]) none hh he rfl ?_
    walk_at "b_go"
    refine w_iterInts (l := I) (by assumption) (by walk_at "b_mem") (fun it s₄ hn R₅ => ?_)
    refine ⟨it, _, _, _, _, _, fun i acc σ' => σ' = (L, isNs [("num_els", some (.int a t)), ("indices", some (.ref I)), ("k", none), ("vals", none), ("min_val", none), ("to_remove", none)]) :: (I, isInts (ks.map fun (j : Nat) => (j : Int))) :: (cd, isCell (some (.ref D))) :: (cx, isCell (some (.ref x))) :: (x, obj 445 dx (cbf b f m k est n)) :: (b, isInts ns) :: τ ∧ IntsAre acc ((ks.take i).map fun j => ns.getD j 0), rfl, Iter.ints hn, R₅, ⟨rfl, .nil⟩, fun _ _ _ q => (by rw [q.1]; walk_at "b_mem"), by rw [sizeLine_eq]; simp; omega, ?_, ?_⟩
    · rintro E' C D' cenv o i acc σ' s₂ v' he' hi ⟨j', t', hj', rfl⟩ ⟨rfl, hacc⟩ R₂
      have hi' : i < ks.length := by simpa using hi
      have e1 : ks[i]? = some ks[i] := by simp [hi']
      have hjn : ks[i] < ns.length := hj _ (List.getElem_mem _)
      have e2 : j' = (ks[i] : Int) := by rw [List.getElem?_map, e1] at hj'; simpa using hj'.symm
      subst e2
      walk_at "b_go"
      refine w_itemI (n := ns[ks[i]]) (l := b) (by assumption) (by walk_at "b_mem") (by omega) (by simp [hjn]) (by omega) (fun _ => ?_)
      refine ⟨_, _, by assumption, rfl, ?_⟩
      rw [List.take_succ, e1]
      simp only [Option.toList_some, List.map_append, List.map_cons, List.map_nil]
      have q := fun t => ints_snoc hacc (ns[ks[i]]) t
      rw [show ns.getD ks[i] 0 = ns[ks[i]] by simp [hjn]]
      exact q _
    · rintro V acc σ' s₂ ⟨rfl, hacc⟩ R₂
      rw [List.take_of_length_le (by simp)] at hacc
      refine ⟨_, _, (L, isNs [("num_els", some (.int a t)), ("indices", some (.ref I)), ("k", none), ("vals", some (.ref V)), ("min_val", none), ("to_remove", none)]) :: (I, isInts (ks.map fun (j : Nat) => (j : Int))) :: (cd, isCell (some (.ref D))) :: (cx, isCell (some (.ref x))) :: (x, obj 445 dx (cbf b f m k est n)) :: (b, isInts ns) :: τ, by walk_at "b_upd", by walk_at "b_put", fun s₃ R₃ => ?_⟩
      replace R₃ := R₃.toInts hacc
      clear R₂ R₅ R₄
      walk_at "b_go"
      refine w_minL (l := V) hh (by assumption) (by walk_at "b_mem") (by intro q; have q' : ks = [] := (by simpa using q); rw [q'] at hk; exact absurd hk (Nat.ne_of_gt hk0)) (fun M t₂ s₅ hM R₉ => ?_)
      walk_at "b_go"
      refine ite_beq (fun hMU => ?_) (fun hMU => ?_)
      · walk_at "b_go"
        subst hMU
        exact h _ _ _ ns n _ hM (.inl ⟨.inl rfl, rfl, rfl, rfl⟩) (Rep.sel (by assumption) (by walk_at "b_sel"))
      walk_at "b_go"
      refine ite_beq (fun hM0 => ?_) (fun hM0 => ?_)
      · walk_at "b_go"
        subst hM0
        exact h _ _ _ ns n _ hM (.inl ⟨.inr rfl, rfl, rfl, rfl⟩) (Rep.sel (by assumption) (by walk_at "b_sel"))
      walk_at "b_go"
      have hmin : ∀ j ∈ ks, M ≤ ns.getD j 0 := fun j hj => hM.2 _ (List.mem_map_of_mem hj)
      have hM0' : 0 ≤ M := by
        obtain ⟨j, hjm, e⟩ := List.mem_map.mp hM.1
        have := hns _ (List.getElem_mem (hj j hjm))
        have e2 : ns.getD j 0 = ns[j]'(hj j hjm) := by simp [hj j hjm]
        try dsimp only at e
        omega
      refine ite_dec (fun hlt => w_local (by assumption) (by assumption) (by walk_at "b_mem") (by walk_at "b_in") ?_) (fun hge => w_local (by assumption) (by assumption) (by walk_at "b_mem") (by walk_at "b_in") ?_)
      · rw [show Value.int a t = Value.int (min a M) t by rw [Int.min_eq_left (by omega)]]
        walk_at "b_go"
        refine w_iterInts (l := I) (by assumption) (by walk_at "b_mem") (fun it s₄ hn R₅ => ?_)
        refine w_forLoop (Iter.ints hn) (fun i σ' => ∃ o, σ' = (L, isNs [("num_els", some (.int a t)), ("indices", some (.ref I)), ("k", o), ("vals", some (.ref V)), ("min_val", some (.int M t₂)), ("to_remove", some (.int (min a M) t))]) :: (I, isInts (ks.map fun (j : Nat) => (j : Int))) :: (cd, isCell (some (.ref D))) :: (cx, isCell (some (.ref x))) :: (x, obj 445 dx (cbf b f m k est n)) :: (b, isInts (subAt ns (ks.take i) (min a M))) :: τ) hh (R₅.sel (by walk_at "b_sel")) ⟨_, rfl⟩ (fun _ _ ⟨_, q⟩ => (by rw [q]; walk_at "b_mem")) ?_ ?_
        · rintro E' i σ' s₂ v' hi ⟨j', t', hj', rfl⟩ ⟨o, rfl⟩ R₂
          have hi' : i < ks.length := by simpa using hi
          have e1 : ks[i]? = some ks[i] := by simp [hi']
          have hjn : ks[i] < ns.length := hj _ (List.getElem_mem _)
          have e2 : j' = (ks[i] : Int) := by rw [List.getElem?_map, e1] at hj'; simpa using hj'.symm
          subst e2
          have hjv : ns.getD ks[i] 0 = ns[ks[i]] := by simp [hjn]
          have h0 := hns _ (List.getElem_mem hjn)
          have hmj := hmin ks[i] (List.getElem_mem _)
          rw [hjv] at hmj
          have hgb : (subAt ns (ks.take i) (min a M))[ks[i]]? = some ns[ks[i]] := by
            have h1 := subAt_get (g := min a M) (ns := ns) (not_in_take hi' hnd)
            have h2 : ks[i] < (subAt ns (ks.take i) (min a M)).length := by rw [subAt_len]; exact hjn
            rw [List.getElem?_eq_getElem h2]
            rw [hjv] at h1
            simpa [h2] using h1
          have q2 := subAt_take (ns := ns) (g := min a M) hi' hnd
          rw [hjv] at q2
          walk_at "b_go"
          refine w_itemI (n := ns[ks[i]]) (l := b) (by assumption) (by walk_at "b_mem") (by omega) (by simpa using hgb) (by omega) (fun _ => ?_)
          walk_at "b_go"
          refine ite_dec (fun hlU => ?_) (fun hlU => ?_)
          · rw [if_pos (show ns[ks[i]] < U32 from hlU)] at q2
            walk_at "b_go"
            refine w_itemI (n := ns[ks[i]]) (l := b) (by assumption) (by walk_at "b_mem") (by omega) (by simpa using hgb) (by omega) (fun _ => ?_)
            walk_at "b_go"
            refine ite_dec (fun _ => ?_) (fun q => absurd (show 0 ≤ ns[ks[i]] - min a M by omega) q)
            walk_at "b_go"
            rw [show decide (ns[ks[i]] - min a M ≤ 4294967295) = true from decide_eq_true (by omega)]
            walk_at "b_go"
            refine w_getItemI (n := ns[ks[i]]) (l := b) (by assumption) (by walk_at "b_mem") (by omega) (by simpa using hgb) (by omega) (fun _ => ?_)
            walk_at "b_go"
            refine w_setItemI (l := b) (by assumption) (by walk_at "b_upd") (by omega) (by rw [subAt_len]; omega) (by omega) (fun s₆ R₉ => ?_)
            walk_at "b_go"
            rw [Int.toNat_natCast, ← q2] at R₉
            exact ⟨_, R₉, _, rfl⟩
          · rw [if_neg (show ¬ ns[ks[i]] < U32 from hlU)] at q2
            walk_at "b_go"
            try dsimp only
            rw [q2]
            exact ⟨_, by assumption, _, rfl⟩
        · rintro σ' s₂ ⟨o, rfl⟩ R₈
          rw [List.take_of_length_le (show ks.length ≤ (ks.map fun (j : Nat) => (j : Int)).length by simp)] at R₈
          walk_at "b_go"
          exact h M _ _ _ _ _ hM (.inr ⟨⟨hMU, hM0⟩, rfl, rfl, rfl⟩) (Rep.sel (by assumption) (by walk_at "b_sel"))
      · rw [show Value.int M t₂ = Value.int (min a M) t₂ by rw [Int.min_eq_right (by omega)]]
        walk_at "b_go"
        refine w_iterInts (l := I) (by assumption) (by walk_at "b_mem") (fun it s₄ hn R₅ => ?_)
        refine w_forLoop (Iter.ints hn) (fun i σ' => ∃ o, σ' = (L, isNs [("num_els", some (.int a t)), ("indices", some (.ref I)), ("k", o), ("vals", some (.ref V)), ("min_val", some (.int M t₂)), ("to_remove", some (.int (min a M) t₂))]) :: (I, isInts (ks.map fun (j : Nat) => (j : Int))) :: (cd, isCell (some (.ref D))) :: (cx, isCell (some (.ref x))) :: (x, obj 445 dx (cbf b f m k est n)) :: (b, isInts (subAt ns (ks.take i) (min a M))) :: τ) hh (R₅.sel (by walk_at "b_sel")) ⟨_, rfl⟩ (fun _ _ ⟨_, q⟩ => (by rw [q]; walk_at "b_mem")) ?_ ?_
        · rintro E' i σ' s₂ v' hi ⟨j', t', hj', rfl⟩ ⟨o, rfl⟩ R₂
          have hi' : i < ks.length := by simpa using hi
          have e1 : ks[i]? = some ks[i] := by simp [hi']
          have hjn : ks[i] < ns.length := hj _ (List.getElem_mem _)
          have e2 : j' = (ks[i] : Int) := by rw [List.getElem?_map, e1] at hj'; simpa using hj'.symm
          subst e2
          have hjv : ns.getD ks[i] 0 = ns[ks[i]] := by simp [hjn]
          have h0 := hns _ (List.getElem_mem hjn)
          have hmj := hmin ks[i] (List.getElem_mem _)
          rw [hjv] at hmj
          have hgb : (subAt ns (ks.take i) (min a M))[ks[i]]? = some ns[ks[i]] := by
            have h1 := subAt_get (g := min a M) (ns := ns) (not_in_take hi' hnd)
            have h2 : ks[i] < (subAt ns (ks.take i) (min a M)).length := by rw [subAt_len]; exact hjn
            rw [List.getElem?_eq_getElem h2]
            rw [hjv] at h1
            simpa [h2] using h1
          have q2 := subAt_take (ns := ns) (g := min a M) hi' hnd
          rw [hjv] at q2
          walk_at "b_go"
          refine w_itemI (n := ns[ks[i]]) (l := b) (by assumption) (by walk_at "b_mem") (by omega) (by simpa using hgb) (by omega) (fun _ => ?_)
          walk_at "b_go"
          refine ite_dec (fun hlU => ?_) (fun hlU => ?_)
          · rw [if_pos (show ns[ks[i]] < U32 from hlU)] at q2
            walk_at "b_go"
            refine w_itemI (n := ns[ks[i]]) (l := b) (by assumption) (by walk_at "b_mem") (by omega) (by simpa using hgb) (by omega) (fun _ => ?_)
            walk_at "b_go"
            refine ite_dec (fun _ => ?_) (fun q => absurd (show 0 ≤ ns[ks[i]] - min a M by omega) q)
            walk_at "b_go"
            rw [show decide (ns[ks[i]] - min a M ≤ 4294967295) = true from decide_eq_true (by omega)]
            walk_at "b_go"
            refine w_getItemI (n := ns[ks[i]]) (l := b) (by assumption) (by walk_at "b_mem") (by omega) (by simpa using hgb) (by omega) (fun _ => ?_)
            walk_at "b_go"
            refine w_setItemI (l := b) (by assumption) (by walk_at "b_upd") (by omega) (by rw [subAt_len]; omega) (by omega) (fun s₆ R₉ => ?_)
            walk_at "b_go"
            rw [Int.toNat_natCast, ← q2] at R₉
            exact ⟨_, R₉, _, rfl⟩
          · rw [if_neg (show ¬ ns[ks[i]] < U32 from hlU)] at q2
            walk_at "b_go"
            try dsimp only
            rw [q2]
            exact ⟨_, by assumption, _, rfl⟩
        · rintro σ' s₂ ⟨o, rfl⟩ R₈
          rw [List.take_of_length_le (show ks.length ≤ (ks.map fun (j : Nat) => (j : Int)).length by simp)] at R₈
          walk_at "b_go"
          exact h M _ _ _ _ _ hM (.inr ⟨⟨hMU, hM0⟩, rfl, rfl, rfl⟩) (Rep.sel (by assumption) (by walk_at "b_sel"))
end
end Bl


namespace Bl
section
variable {G : Gd hd.heap_39} {A : Around} {E : Value → Shared → Prop} {σ τ : Led} {s : Shared} {env : Env}

theorem sp_add {x b f dx : Addr} {m k c : Nat} {est n a salt : Int} {t u : Tok} {y : Str} {ns : List Int} {ks : List Nat} {R' : Result → Shared → Prop} (R : Rep G ((x, obj 445 dx (cbf b f m k est n)) :: (b, isInts ns) :: τ) s) (hdx : Holds G τ dx isAny) (hf : IsHash G τ f salt)
    (hroom : A.depth + 4 < recursionLimit) (hh : A.handled = none) (hy : y.cps[0]? = some c) (hm : m = ns.length) (hm0 : 0 < m) (hm1 : m ≤ 1000) (hk : k = ks.length) (hk0 : 0 < k) (hk1 : k ≤ 1000)
    (hks : (placesOf c salt k).map (fun v => v.fmod m) = ks.map (fun (j : Nat) => (j : Int))) (hnd : ks.Nodup) (ha : 0 ≤ a) (hns : ∀ v ∈ ns, 0 ≤ v ∧ v ≤ U32)
    (h : ∀ M t s', least (ks.map fun j => min (ns.getD j 0 + a) U32) M → Rep G ((x, obj 445 dx (cbf b f m k est (min (n + a) 18446744073709551615))) :: (b, isInts (addAt ns ks a)) :: τ) s' → R' (.ok (.ret (.int M t))) s') :
    codeAny (model G.prog G.w) A (.call (.ref 386) ⟨[.ref x, .str y u, .int a t], []⟩) R' s := by
  refine c_K [("self", .ref x), ("key", .str y u), ("num_els", .int a t)] [("self", some (.ref x)), ("key", some (.str y u)), ("num_els", some (.int a t))] R (by omega) rfl (fun X => kp_binds X (fun _ => by kernel_rfl)) (fun L s' env R he hf' hfn => ?_)
  have hf2 := hf.mono (σ := (L, isNs [("self", some (.ref x)), ("key", some (.str y u)), ("num_els", some (.int a t))]) :: (x, obj 445 dx (cbf b f m k est n)) :: (b, isInts ns) :: τ) Sub.refl.cons.cons.cons
  walk_at "b_go"
  refine x_callM (sp_hashes (by assumption) (by walk_at "b_mem") (by walk_at "b_mem") hf2 (b_room (k := 2) (by omega)) hh hy hk1 (fun D s₂ R₂ => ?_))
  walk_at "b_go"
  refine x_callM (sp_add_alt (D := D) (τ := (D, isInts (placesOf c salt k)) :: (L, isNs [("self", some (.ref x)), ("key", some (.str y u)), ("num_els", some (.int a t))]) :: τ) (Rep.sel (by assumption) (by walk_at "b_sel")) Holds.head (by walk_at "b_mem") (b_room (k := 1) (by omega)) hh hm hm0 hm1 hk hk0 hk1 hks hnd ha hns (fun M t' s₃ hM R₃ => ?_))
  exact h M t' s₃ hM (R₃.sel (by walk_at "b_sel"))

theorem sp_remove {x b f dx : Addr} {m k c : Nat} {est n a salt : Int} {t u : Tok} {y : Str} {ns : List Int} {ks : List Nat} {R' : Result → Shared → Prop} (R : Rep G ((x, obj 445 dx (cbf b f m k est n)) :: (b, isInts ns) :: τ) s) (hdx : Holds G τ dx isAny) (hf : IsHash G τ f salt)
    (hroom : A.depth + 4 < recursionLimit) (hh : A.handled = none) (hy : y.cps[0]? = some c) (hm : m = ns.length) (hm0 : 0 < m) (hm1 : m ≤ 1000) (hk : k = ks.length) (hk0 : 0 < k) (hk1 : k ≤ 1000)
    (hks : (placesOf c salt k).map (fun v => v.fmod m) = ks.map (fun (j : Nat) => (j : Int))) (hnd : ks.Nodup) (ha : 0 ≤ a) (hns : ∀ v ∈ ns, 0 ≤ v ∧ v ≤ U32)
    (h : ∀ M t s' ns' n' r, least (ks.map fun j => ns.getD j 0) M → ((M = U32 ∨ M = 0) ∧ ns' = ns ∧ n' = n ∧ r = M ∨ (M ≠ U32 ∧ M ≠ 0) ∧ ns' = subAt ns ks (min a M) ∧ n' = n - min a M ∧ r = M - min a M) →
      Rep G ((x, obj 445 dx (cbf b f m k est n')) :: (b, isInts ns') :: τ) s' → R' (.ok (.ret (.int r t))) s') :
    codeAny (model G.prog G.w) A (.call (.ref 414) ⟨[.ref x, .str y u, .int a t], []⟩) R' s := by
  refine c_K [("self", .ref x), ("key", .str y u), ("num_els", .int a t)] [("self", some (.ref x)), ("key", some (.str y u)), ("num_els", some (.int a t))] R (by omega) rfl (fun X => kp_binds X (fun _ => by kernel_rfl)) (fun L s' env R he hf' hfn => ?_)
  have hf2 := hf.mono (σ := (L, isNs [("self", some (.ref x)), ("key", some (.str y u)), ("num_els", some (.int a t))]) :: (x, obj 445 dx (cbf b f m k est n)) :: (b, isInts ns) :: τ) Sub.refl.cons.cons.cons
  walk_at "b_go"
  refine x_callM (sp_hashes (by assumption) (by walk_at "b_mem") (by walk_at "b_mem") hf2 (b_room (k := 2) (by omega)) hh hy hk1 (fun D s₂ R₂ => ?_))
  walk_at "b_go"
  refine x_callM (sp_remove_alt (D := D) (τ := (D, isInts (placesOf c salt k)) :: (L, isNs [("self", some (.ref x)), ("key", some (.str y u)), ("num_els", some (.int a t))]) :: τ) (Rep.sel (by assumption) (by walk_at "b_sel")) Holds.head (by walk_at "b_mem") (b_room (k := 2) (by omega)) hh hm hm0 hm1 hk hk0 hk1 hks hnd ha hns (fun M t' s₃ ns' n' r hM hc R₃ => ?_))
  exact h M t' s₃ ns' n' r hM hc (R₃.sel (by walk_at "b_sel"))

theorem sp_check {x b f dx : Addr} {m k c : Nat} {est n salt : Int} {u : Tok} {y : Str} {ns : List Int} {ks : List Nat} {R' : Result → Shared → Prop} (R : Rep G ((x, obj 445 dx (cbf b f m k est n)) :: (b, isInts ns) :: τ) s) (hdx : Holds G τ dx isAny) (hf : IsHash G τ f salt)
    (hg : 401 ∈ G.gtabs) (hgp : G.gensP = AllBare)
    (hroom : A.depth + 5 < recursionLimit) (hh : A.handled = none) (hy : y.cps[0]? = some c) (hm : m = ns.length) (hm0 : 0 < m) (hm1 : m ≤ 1000) (hk : k = ks.length) (hk0 : 0 < k) (hk1 : k ≤ 1000)
    (hks : (placesOf c salt k).map (fun v => v.fmod m) = ks.map (fun (j : Nat) => (j : Int)))
    (h : ∀ M t s', least (ks.map fun j => ns.getD j 0) M → Rep G ((x, obj 445 dx (cbf b f m k est n)) :: (b, isInts ns) :: τ) s' → R' (.ok (.ret (.int M t))) s') :
    codeAny (model G.prog G.w) A (.call (.ref 399) ⟨[.ref x, .str y u], []⟩) R' s := by
  refine c_K [("self", .ref x), ("key", .str y u)] [("self", some (.ref x)), ("key", some (.str y u))] R (by omega) rfl (fun X => kp_binds X (fun _ => by kernel_rfl)) (fun L s' env R he hf' hfn => ?_)
  have hf2 := hf.mono (σ := (L, isNs [("self", some (.ref x)), ("key", some (.str y u))]) :: (x, obj 445 dx (cbf b f m k est n)) :: (b, isInts ns) :: τ) Sub.refl.cons.cons.cons
  walk_at "b_go"
  refine x_callM (sp_hashes (by assumption) (by walk_at "b_mem") (by walk_at "b_mem") hf2 (b_room (k := 2) (by omega)) hh hy hk1 (fun D s₂ R₂ => ?_))
  walk_at "b_go"
  refine x_callM (sp_check_alt (D := D) (by assumption) (by walk_at "b_mem") (by walk_at "b_mem") (by walk_at "b_mem") (by walk_at "b_mem") hg hgp (b_room (k := 3) (by omega)) hh hm hm0 hm1 (by omega) hks (fun M t' s₃ hM R₃ => ?_))
  exact h M t' s₃ hM (R₃.sel (by walk_at "b_sel"))

theorem sp_contains {x b f dx : Addr} {m k c : Nat} {est n salt : Int} {u : Tok} {y : Str} {ns : List Int} {ks : List Nat} {R' : Result → Shared → Prop} (R : Rep G ((x, obj 445 dx (cbf b f m k est n)) :: (b, isInts ns) :: τ) s) (hdx : Holds G τ dx isAny) (hf : IsHash G τ f salt)
    (hg : 401 ∈ G.gtabs) (hgp : G.gensP = AllBare)
    (hroom : A.depth + 6 < recursionLimit) (hh : A.handled = none) (hy : y.cps[0]? = some c) (hm : m = ns.length) (hm0 : 0 < m) (hm1 : m ≤ 1000) (hk : k = ks.length) (hk0 : 0 < k) (hk1 : k ≤ 1000)
    (hks : (placesOf c salt k).map (fun v => v.fmod m) = ks.map (fun (j : Nat) => (j : Int)))
    (h : ∀ M t s', least (ks.map fun j => ns.getD j 0) M → Rep G ((x, obj 445 dx (cbf b f m k est n)) :: (b, isInts ns) :: τ) s' → R' (.ok (.ret (.int M t))) s') :
    codeAny (model G.prog G.w) A (.call (.ref 145) ⟨[.ref x, .str y u], []⟩) R' s := by
  refine c_K [("self", .ref x), ("key", .str y u)] [("self", some (.ref x)), ("key", some (.str y u))] R (by omega) rfl (fun X => kp_binds X (fun _ => by kernel_rfl)) (fun L s' env R he hf' hfn => ?_)
  have hf2 := hf.mono (σ := (L, isNs [("self", some (.ref x)), ("key", some (.str y u))]) :: τ) Sub.refl.cons
  walk_at "b_go"
  refine x_callM (sp_check (τ := (L, isNs [("self", some (.ref x)), ("key", some (.str y u))]) :: τ) (Rep.sel (by assumption) (by walk_at "b_sel")) (by walk_at "b_mem") hf2 hg hgp (b_room (k := 5) (by omega)) hh hy hm hm0 hm1 hk hk0 hk1 hks (fun M t' s₃ hM R₃ => ?_))
  exact h M t' s₃ hM (R₃.sel (by walk_at "b_sel"))
end
end Bl


namespace Bl
section
variable {G : Gd hd.heap_39} {A : Around} {E : Value → Shared → Prop} {σ τ : Led} {s : Shared} {env : Env}

theorem x_sumS {v : Value} {vals : List Int} {fin : Shared → Prop} {args : List Value} {Q : Value → Shared → Prop} (S : IntSrc G A v vals fin s) (h : ∀ t s', fin s' → Q (.int vals.sum t) s') (ha : args = [v] := by with_unfolding_all rfl) :
    wpAny (model G.prog G.w) A (call (.builtin "sum") args) Q E s := by subst ha; exact w_sumS S h
theorem sum_ones : ∀ l : List Nat, (l.map fun _ => (1 : Int)).sum = l.length
  | [] => rfl
  | a :: l => by simp [sum_ones l]; omega

theorem sp_cnt {x b f dx : Addr} {m k : Nat} {est n : Int} {ns : List Int} {R' : Result → Shared → Prop} (R : Rep G σ s) (hX : Holds G σ x (obj 445 dx (cbf b f m k est n))) (hB : Holds G σ b (isInts ns)) (hdx : Holds G σ dx isAny)
    (hg : 436 ∈ G.gtabs) (hgp : G.gensP = AllBare) (hroom : A.depth + 3 < recursionLimit) (hh : A.handled = none)
    (h : ∀ (c : Nat) t s', c ≤ ns.length → Rep G σ s' → R' (.ok (.ret (.int c t))) s') :
    codeAny (model G.prog G.w) A (.call (.ref 441) ⟨[.ref x], []⟩) R' s := by
  refine c_K [("self", .ref x)] [("self", some (.ref x))] R (by omega) rfl (fun X => kp_binds X (fun _ => by kernel_rfl)) (fun L s' env R he hf hfn => ?_)
  have hX' := hX.tail (p := (L, isNs [("self", some (.ref x))]))
  have hB' := hB.tail (p := (L, isNs [("self", some (.ref x))]))
  walk_at "b_go"
  refine w_gen (T := 436) (fun i => decide (0 < ns.getD i 0)) (fun _ => 1) hh he (by rw [dd]; omega) rfl hg hgp ?_
  walk_at "b_go"
  refine wk_list (l := b) (by assumption) (by walk_at "b_mem") (fun I s₁ R₁ W => ?_)
  refine ⟨I, _, _, _, _, rfl, R₁, W, ?_, fun a s₅ S R₅ => ?_⟩
  · intro G' A' E' i v C cenv s₃ cd' hw hA' hD' hU' hP he' hC hall R₃
    obtain ⟨v', t', hv', rfl⟩ := hP
    have q4 : Holds G' [] C (hasName "x" (.int v' t')) := .base hC
    refine ⟨w_tests1 ?_, fun _ => ?_⟩
    · refine x_TCmp ?_
      refine w_localB (by assumption) he' q4 ?_
      walk_at "b_go"
      refine ⟨?_, _, by assumption⟩
      simp [List.getD_eq_getElem?_getD, hv']
    · walk_at "b_go"
      exact ⟨⟨_, rfl⟩, _, by assumption⟩
  · walk_at "b_go"
    refine x_sumS S (fun t₂ s₆ R₆ => ?_)
    rw [sum_ones]
    refine h _ t₂ s₆ ?_ (R₆.sel (by walk_at "b_sel"))
    have := List.length_filter_le (fun i => decide (0 < ns.getD i 0)) (List.range ns.length)
    simpa using this
end
end Bl


namespace Bl
section
variable {G : Gd hd.heap_39} {A : Around} {E : Value → Shared → Prop} {σ τ : Led} {s : Shared} {env : Env}

theorem sp_estimate {x b f dx : Addr} {m k : Nat} {est n : Int} {ns : List Int} {outer : List Env} {R' : Result → Shared → Prop} (R : Rep G σ s) (hX : Holds G σ x (obj 445 dx (cbf b f m k est n))) (hB : Holds G σ b (isInts ns)) (hdx : Holds G σ dx isAny)
    (hg : 436 ∈ G.gtabs) (hg2 : 271 ∈ G.gtabs) (hgp : G.gensP = AllBare) (hroom : A.depth + 5 < recursionLimit) (hh : A.handled = none) (hfr : A.frames = some outer) (hF : FramesIn σ outer)
    (hm : m = ns.length) (hm0 : 0 < m) (hm1 : m ≤ 1000) (hk0 : 0 < k) (hk1 : k ≤ 1000)
    (h1 : (∃ v ∈ ns, U32 < v) → ∀ e T s', T ∉ G.ltabs → Rep G ((e, isExcT (.type "OverflowError") T) :: (T, isTb) :: σ) s' → R' (.error (.ref e)) s')
    (h2 : (∀ v ∈ ns, v ≤ U32) → ∀ r t s', Rep G σ s' → R' (.ok (.ret (.int r t))) s') :
    codeAny (model G.prog G.w) A (.call (.ref 276) ⟨[.ref x], []⟩) R' s := by
  refine c_KC [("self", .ref x)] [("setbits", none), ("log_n", none)] ["tmp", "self"] R (by omega) rfl (fun X => kp_binds X (fun _ => by kernel_rfl)) (fun L s' env cl hcl R he hf hfn => ?_)
  revert cl
  refine cells2 fun ct cx R he => ?_
  replace R : Rep G ((L, isNs [("setbits", none), ("log_n", none)]) :: (ct, isCell none) :: (cx, isCell (some (.ref x))) :: σ) s' := R
  have hX1 := (hX.tail (p := (cx, isCell (some (.ref x))))).tail (p := (ct, isCell none))
  have hB1 := (hB.tail (p := (cx, isCell (some (.ref x))))).tail (p := (ct, isCell none))
  walk_at "b_go"
  refine w_maxL (l := b) hh (by assumption) (by walk_at "b_mem") (by intro q; rw [q] at hm; exact absurd hm (Nat.ne_of_gt hm0)) (fun M t₂ s₂ hM R₂ => ?_)
  walk_at "b_go"
  refine w_itemSI (n := 4294967295) (by assumption) (by walk_at "b_mem") ⟨_, by with_unfolding_all rfl⟩ (fun t₃ s₃ R₃ => ?_)
  walk_at "b_go"
  refine ite_dec (fun hgt => ?_) (fun hle => ?_)
  · walk_at "b_go"
    refine Raise_madeB PySem.F.excCall_OverflowError PySem.F.excRaise_OverflowError hh ?_
    walk_at "b_go"
    refine ⟨rfl, ?_⟩
    walk_at "b_go"
    refine ⟨by show 1 ≤ sizeLine; decide, fun h' e x => ?_⟩
    have R₄ := (rep_made (by assumption) x).sel (τ := (e, isExc0 (.type "OverflowError")) :: (L, isNs [("setbits", none), ("log_n", none)]) :: σ) (by walk_at "b_sel")
    refine w_leaving0 R₄ (Around.frames_deeper hfr) (hF.push he.kind hf) (fun T s₅ hT R₅ => ?_)
    exact h1 ⟨M, hM.1, hgt⟩ e T s₅ hT (R₅.sel (by walk_at "b_sel"))
  · have hall : ∀ v ∈ ns, v ≤ U32 := fun v hv => by have := hM.2 v hv; show v ≤ 4294967295; omega
    walk_at "b_go"
    refine x_callM (sp_cnt (by assumption) (by walk_at "b_mem") (by walk_at "b_mem") (by walk_at "b_mem") hg hgp (b_room (k := 3) (by omega)) hh (fun c t₄ s₄ hc R₄ => ?_))
    walk_at "b_go"
    refine ite_dec (fun hge => ?_) (fun hlt => ?_)
    · walk_at "b_go"
      exact h2 hall _ _ _ (Rep.sel (by assumption) (by walk_at "b_sel"))
    have hc' : c < m := by omega
    have hq0 : (0 : Int) < (m : Int) - c := by omega
    obtain ⟨hq1, ht0, ht1⟩ := est_tmp (m := m) (d := (m : Int) - c) hq0 (by omega)
    have hqm : (m : Int).fdiv ((m : Int) - c) ≤ m := by
      have e := Int.fdiv_eq_ediv_of_nonneg (m : Int) (show (0:Int) ≤ (m : Int) - c by omega)
      rw [e]
      exact Int.ediv_le_self _ (by omega)
    have hbp := bits_pos hq1
    have hbl : Builtin.Int.intBits ((m : Int).fdiv ((m : Int) - c)) ≤ 10 := bits_le (by omega)
    walk_at "b_go"
    refine w_fdiv (by assumption) (by omega) (log_small (k := 10) (by omega) (by omega) (by decide)) (fun _ _ _ => ?_)
    walk_at "b_go"
    have hbd : Builtin.Int.intBits ((m : Int) - c) ≤ 10 := bits_le (by omega)
    refine w_shl (by assumption) (by omega) (by omega) (fun t₅ s₅ R₅ => ?_)
    revert ht0 ht1
    generalize hT : ((m : Int) - c) * 2 ^ ((Builtin.Int.intBits ((m : Int).fdiv ((m : Int) - c)) : Int) - 1).toNat = T
    intro ht0 ht1
    walk_at "b_go"
    refine w_fdiv (by assumption) (by omega) (log_small (k := 10) (by omega) (by omega) (by decide)) (fun _ _ _ => ?_)
    walk_at "b_go"
    refine w_mul (by assumption) (.of_left (by decide +kernel)) (fun _ _ _ => ?_)
    walk_at "b_go"
    refine w_gen (T := 271) (fun _ => true) (fun i => (((m : Int) - T) ^ (1 + (i : Int) * 2).toNat * 2 ^ (65 : Int).toNat).fdiv (((m : Int) + T) ^ (1 + (i : Int) * 2).toNat * (1 + (i : Int) * 2))) hh he (by rw [dd]; omega) rfl hg2 hgp ?_
    walk_at "b_go"
    refine x_range3 (a := 1) (n := 42) (c := 2) (by assumption) (by decide) (by decide) (fun r s₆ R₆ => ?_)
    refine wk_range (n := 21) R₆ Holds.head (by decide +kernel) (by decide +kernel) (fun I s₇ R₇ W => ?_)
    refine ⟨I, _, _, _, _, rfl, R₇, W.bound, ?_, fun a s₈ S R₈ => ?_⟩
    · intro G' A' E' i v C cenv s₃ cd' hw hA' hD' hU' hP he' hC hall R₃
      obtain ⟨hi, t', rfl⟩ := hP
      rw [dd] at hD'
      have q1 : Holds G' [] cx (isCell (some (.ref x))) := .base (hall _ _ (by walk_at "b_mem"))
      have q2 : Holds G' [] x (obj 445 dx (cbf b f m k est n)) := .base (hall _ _ (by walk_at "b_mem"))
      have q5 : Holds G' [] dx isAny := .base (hall _ _ (by walk_at "b_mem"))
      have q3 : Holds G' [] ct (isCell (some (.int T t₅))) := .base (hall _ _ (by walk_at "b_mem"))
      have q4 : Holds G' [] C (hasName "i" (.int (1 + i * 2) t')) := .base hC
      refine ⟨w_tests0 ⟨rfl, _, R₃⟩, fun _ => ?_⟩
      walk_at "b_go"
      refine w_localB (by assumption) he' q4 ?_
      have hb1 : Builtin.Int.intBits ((m : Int) - T) ≤ 10 := bits_le (by omega)
      have hb2 : Builtin.Int.intBits ((m : Int) + T) ≤ 11 := bits_le (by omega)
      have hn : (1 + (i : Int) * 2).toNat ≤ 41 := by omega
      have hp1 : (((m : Int) - T) ^ (1 + (i : Int) * 2).toNat).natAbs < 2 ^ 410 := Nat.lt_of_le_of_lt (pow_abs_le (B := 1000) (by omega) (by decide) hn) (by decide +kernel)
      have hp2 : (((m : Int) + T) ^ (1 + (i : Int) * 2).toNat).natAbs ≤ 2000 ^ 41 := pow_abs_le (B := 2000) (by omega) (by decide) hn
      have hp3 : ((m : Int) + T) ^ (1 + (i : Int) * 2).toNat * (1 + (i : Int) * 2) ≠ 0 := Int.mul_ne_zero (Int.ne_of_gt (Int.pow_pos (by omega))) (by omega)
      have hp4 : (((m : Int) + T) ^ (1 + (i : Int) * 2).toNat * (1 + (i : Int) * 2)).natAbs < 2 ^ 500 := by
        rw [Int.natAbs_mul]
        exact Nat.lt_of_le_of_lt (Nat.mul_le_mul hp2 (show (1 + (i : Int) * 2).natAbs ≤ 41 by omega)) (by decide +kernel)
      have hb3 : (Builtin.Int.intBits ((m : Int) - T) : Int) * (1 + (i : Int) * 2) ≤ 2 ^ 27 :=
        Int.le_trans (Int.mul_le_mul (show (Builtin.Int.intBits ((m : Int) - T) : Int) ≤ 10 by omega) (show 1 + (i : Int) * 2 ≤ 41 by omega) (by omega) (by decide)) (by decide)
      have hb4 : (Builtin.Int.intBits ((m : Int) + T) : Int) * (1 + (i : Int) * 2) ≤ 2 ^ 27 :=
        Int.le_trans (Int.mul_le_mul (show (Builtin.Int.intBits ((m : Int) + T) : Int) ≤ 11 by omega) (show 1 + (i : Int) * 2 ≤ 41 by omega) (by omega) (by decide)) (by decide)
      refine w_pow (by assumption) (by omega) hb3 (fun _ _ _ => ?_)
      walk_at "b_go"
      refine w_shl (by assumption) (by decide) (by have := bits_le hp1; omega) (fun _ _ _ => ?_)
      walk_at "b_go"
      refine w_localB (by assumption) he' q4 ?_
      refine w_pow (by assumption) (by omega) hb4 (fun _ _ _ => ?_)
      refine w_localB (by assumption) he' q4 ?_
      refine w_mul (by assumption) (.of_right (bits_le (by omega))) (fun _ _ _ => ?_)
      refine w_fdiv (by assumption) hp3 (log_small hp3 hp4 (by decide)) (fun _ _ _ => ?_)
      exact ⟨⟨_, rfl⟩, _, by assumption⟩
    · walk_at "b_go"
      refine x_sumS S (fun t₆ s₉ R₉ => ?_)
      walk_at "b_go"
      refine w_mul (by assumption) (.of_left (bits_le (by omega))) (fun _ _ _ => ?_)
      walk_at "b_go"
      refine w_shl (by assumption) (by decide) (by have : Builtin.Int.intBits (k : Int) ≤ 10 := bits_le (by omega); omega) (fun _ _ _ => ?_)
      have hz : (k : Int) * 2 ^ (64 : Int).toNat ≠ 0 := Int.mul_ne_zero (by omega) (by decide)
      refine w_fdiv (by assumption) hz (log_small (k := 80) hz (by
        rw [Int.natAbs_mul]
        exact Nat.lt_of_le_of_lt (Nat.mul_le_mul (show (k : Int).natAbs ≤ 1000 by omega) (Nat.le_refl _)) (by decide +kernel)) (by decide)) (fun _ _ _ => ?_)
      walk_at "b_go"
      exact h2 hall _ _ _ (Rep.sel (by assumption) (by walk_at "b_sel"))
end
end Bl


namespace Bl
section
variable {G : Gd hd.heap_39} {A : Around} {E : Value → Shared → Prop} {σ τ : Led} {s : Shared} {env : Env}

theorem sp_similar {x b f x' b' f' dx dx' : Addr} {m k m' k' : Nat} {est n est' n' salt salt' : Int} {R' : Result → Shared → Prop} (R : Rep G σ s) (hX : Holds G σ x (obj 445 dx (cbf b f m k est n))) (hX' : Holds G σ x' (obj 445 dx' (cbf b' f' m' k' est' n')))
    (hdx : Holds G σ dx isAny) (hdx' : Holds G σ dx' isAny) (hf : IsHash G σ f salt) (hf' : IsHash G σ f' salt') (hroom : A.depth + 4 < recursionLimit) (hun : A.units + 100 < cLine) (hh : A.handled = none) (hk : k ≤ 1000) (hk' : k' ≤ 1000)
    (h : ∀ s', Rep G σ s' → R' (.ok (.ret (.bool (decide (k = k' ∧ m = m' ∧ placesOf 116 salt k = placesOf 116 salt' k'))))) s') :
    codeAny (model G.prog G.w) A (.call (.ref 328) ⟨[.ref x, .ref x'], []⟩) R' s := by
  refine c_K [("self", .ref x), ("second", .ref x')] [("self", some (.ref x)), ("second", some (.ref x')), ("hash_match", none), ("same_bits", none), ("next_hash", none)] R (by omega) rfl (fun X => kp_binds X (fun _ => by kernel_rfl)) (fun L s' env R he hff hfn => ?_)
  walk_at "b_go"
  have s2 : ∀ {o1 o2 o3 : Option Value}, Sub G σ ((L, isNs [("self", some (.ref x)), ("second", some (.ref x')), ("hash_match", o1), ("same_bits", o2), ("next_hash", o3)]) :: σ) := Sub.refl.cons
  have hy : (Str.ofString "test").cps[0]? = some 116 := by decide +kernel
  refine x_callM (sp_hashes (c := 116) (y := Str.ofString "test") (by assumption) (by walk_at "b_mem") (by walk_at "b_mem") (hf.mono s2) (b_room (k := 2) (by omega)) hh hy hk (fun D s₂ R₂ => ?_))
  walk_at "b_go"
  refine x_callM (sp_hashes (c := 116) (y := Str.ofString "test") (by assumption) (by walk_at "b_mem") (by walk_at "b_mem") (hf'.mono s2.cons) (b_room (k := 2) (by omega)) hh hy hk' (fun D' s₃ R₃ => ?_))
  refine w_neI (l := D) (l' := D') (by assumption) (by walk_at "b_mem") (by walk_at "b_mem") (by rw [du]; omega) ?_
  walk_at "b_go"
  have e : decide (k = k' ∧ m = m' ∧ placesOf 116 salt k = placesOf 116 salt' k') = !((((k : Int) != k') || ((m : Int) != m')) || !decide (placesOf 116 salt k = placesOf 116 salt' k')) := by
    rw [Bool.eq_iff_iff]
    simp only [decide_eq_true_eq, Bool.not_eq_true', Bool.or_eq_false_iff, bne_eq_false_iff_eq, Bool.not_eq_false', Int.ofNat_inj]
    exact ⟨fun ⟨a, b, c⟩ => ⟨⟨by exact_mod_cast a, by exact_mod_cast b⟩, c⟩, fun ⟨⟨a, b⟩, c⟩ => ⟨by exact_mod_cast a, by exact_mod_cast b, c⟩⟩
  rw [e] at h
  clear e
  generalize ((k : Int) != k') = b1 at *
  generalize ((m : Int) != m') = b2 at *
  generalize (!decide (placesOf 116 salt k = placesOf 116 salt' k')) = b3 at *
  cases b1 with
  | true =>
    walk_at "b_go"
    exact h _ (Rep.sel (by assumption) (by walk_at "b_sel"))
  | false =>
    walk_at "b_go"
    cases b2 with
    | true =>
      walk_at "b_go"
      exact h _ (Rep.sel (by assumption) (by walk_at "b_sel"))
    | false =>
      walk_at "b_go"
      exact h _ (Rep.sel (by assumption) (by walk_at "b_sel"))
end
end Bl


namespace Bl
section
variable {G : Gd hd.heap_39} {A : Around} {E : Value → Shared → Prop} {σ τ : Led} {s : Shared} {env : Env}

def roundsOf (m w : Nat) : Nat := ((2 * m * 693147180559945) / (w * 1000000000000000) + 1) / 2
theorem rounds_step {m w c : Nat} (hw : 0 < w) : ((2 * (c : Int) + 1) * w * 1000000000000000 ≤ 2 * (m : Int) * 693147180559945) ↔ c < roundsOf m w := by
  unfold roundsOf
  have hW : 0 < w * 1000000000000000 := Nat.mul_pos hw (by decide)
  have h1 : ((2 * (c : Int) + 1) * w * 1000000000000000 ≤ 2 * (m : Int) * 693147180559945) ↔ (2 * c + 1) * (w * 1000000000000000) ≤ 2 * m * 693147180559945 := by
    have e1 : (2 * (c : Int) + 1) * w * 1000000000000000 = (((2 * c + 1) * (w * 1000000000000000) : Nat) : Int) := by
      rw [Int.natCast_mul, Int.natCast_mul, Int.natCast_add, Int.natCast_mul, Int.mul_assoc]; rfl
    have e2 : 2 * (m : Int) * 693147180559945 = ((2 * m * 693147180559945 : Nat) : Int) := by
      rw [Int.natCast_mul, Int.natCast_mul]; rfl
    rw [e1, e2, Int.ofNat_le]
  rw [h1, ← Nat.le_div_iff_mul_le hW]
  omega

theorem sp_rounds {m w : Nat} {t u : Tok} {R' : Result → Shared → Prop} (R : Rep G σ s) (hroom : A.depth + 1 < recursionLimit) (hw : 0 < w) (hw1 : w ≤ 1000) (hm : m ≤ 1000)
    (h : ∀ t s', Rep G σ s' → R' (.ok (.ret (.int (roundsOf m w) t))) s') :
    codeAny (model G.prog G.w) A (.call (.ref 462) ⟨[.int m t, .int w u], []⟩) R' s := by
  refine c_K [("bits", .int m t), ("wanted", .int w u)] [("bits", some (.int m t)), ("wanted", some (.int w u)), ("count", none)] R (by omega) rfl (fun _ => BindsTo.of_eq rfl) (fun L s' env R he hf hfn => ?_)
  walk_at "b_go"
  refine w_while (fun k σ' => ∃ c : Nat, ∃ t' : Tok, k + c = roundsOf m w ∧ σ' = (L, isNs [("bits", some (.int m t)), ("wanted", some (.int w u)), ("count", some (.int c t'))]) :: σ) (k₀ := roundsOf m w) (by assumption) ⟨0, _, Nat.add_zero _, rfl⟩ ?_
  rintro E' k σ' s₂ ⟨c, t', hk, rfl⟩ R₂
  walk_at "b_go"
  refine w_mul (by assumption) (.of_left (by decide +kernel)) (fun _ _ _ => ?_)
  walk_at "b_go"
  refine w_mul (by assumption) (.of_right (by decide +kernel)) (fun _ _ _ => ?_)
  walk_at "b_go"
  refine w_mul (by assumption) (.of_left (by decide +kernel)) (fun _ _ _ => ?_)
  walk_at "b_go"
  refine w_mul (by assumption) (.of_right (bits_le (by omega))) (fun _ _ _ => ?_)
  walk_at "b_go"
  refine w_mul (by assumption) (.of_right (by decide +kernel)) (fun _ _ _ => ?_)
  walk_at "b_go"
  refine ite_dec (fun hlt => ?_) (fun hge => ?_)
  · have hc := (rounds_step hw).mp hlt
    walk_at "b_go"
    exact ⟨k - 1, _, by omega, by assumption, c + 1, _, by omega, rfl⟩
  · have hc : ¬ c < roundsOf m w := fun q => hge ((rounds_step hw).mpr q)
    have e : c = roundsOf m w := by omega
    walk_at "b_go"
    rw [e]
    exact h _ _ (Rep.sel (by assumption) (by walk_at "b_sel"))
end
end Bl


namespace Bl
section
variable {G : Gd hd.heap_39} {A : Around} {E : Value → Shared → Prop} {σ τ : Led} {s : Shared} {env : Env}

def amounts : List Int := [1, 2, 3, 7, 1, 4294967290, 2147483648, 5]
theorem sp_amounts {R' : Result → Shared → Prop} (R : Rep G σ s) (hroom : A.depth < recursionLimit) (h : ∀ D s', Rep G ((D, isInts amounts) :: σ) s' → R' (.ok (.ret (.ref D))) s') :
    codeAny (model G.prog G.w) A (.call (.ref 455) ⟨[], []⟩) R' s := by
  refine c_K [] [] R (by omega) rfl (fun _ => BindsTo.of_eq rfl) (fun L s' env R he hf hfn => ?_)
  walk_at "b_go"
  refine w_List ?_
  walk_at "b_go"
  refine ⟨by show 8 ≤ sizeLine; decide, _, by assumption, fun D s₂ R₂ => ?_⟩
  walk_at "b_go"
  exact h D _ ((R₂.toInts (.cons _ _ (.cons _ _ (.cons _ _ (.cons _ _ (.cons _ _ (.cons _ _ (.cons _ _ (.cons _ _ .nil))))))))).sel (by walk_at "b_sel"))
end
end Bl


namespace Bl
section
variable {G : Gd hd.heap_39} {A : Around} {E : Value → Shared → Prop} {σ τ : Led} {s : Shared} {env : Env}

def svs0 : List SV := [.va .none, .no, .no, .nu 0, .nu 0, .nu 0, .no, .no, .nu 0, .nu 0, .va (.bool false), .st "counting", .st "I"]
def svs1 (f : Addr) (m k est : Int) : List SV := [.va .none, .no, .no, .nu (-((-m).fdiv 8)), .nu 0, .nu est, .nu m, .va (.ref f), .nu m, .nu k, .va (.bool false), .st "counting", .st "I"]

theorem sp_set_values {x f dx : Addr} {m k est : Int} {t1 t2 t3 t4 : Tok} {R' : Result → Shared → Prop} (R : Rep G ((x, obj 445 dx svs0) :: τ) s) (hdx : Holds G τ dx isAny) (hroom : A.depth + 1 < recursionLimit) (hh : A.handled = none)
    (h : ∀ s', Rep G ((x, obj 445 dx (svs1 f m k est)) :: τ) s' → R' (.ok (.ret .none)) s') :
    codeAny (model G.prog G.w) A (.call (.ref 307) ⟨[.ref x, .int est t1, .int m t2, .int k t3, .int m t4, .ref f], []⟩) R' s := by
  refine c_K [("self", .ref x), ("est_els", .int est t1), ("fpr", .int m t2), ("n_hashes", .int k t3), ("n_bits", .int m t4), ("hash_func", .ref f)]
    [("self", some (.ref x)), ("est_els", some (.int est t1)), ("fpr", some (.int m t2)), ("n_hashes", some (.int k t3)), ("n_bits", some (.int m t4)), ("hash_func", some (.ref f))] R (by omega) rfl (fun _ => BindsTo.of_eq rfl) (fun L s' env R he hf hfn => ?_)
  walk_at "b_go"
  refine w_fdiv (by assumption) (by decide) (by decide +kernel) (fun _ _ _ => ?_)
  walk_at "b_go"
  exact h _ (Rep.sel (by assumption) (by walk_at "b_sel"))
end
end Bl


namespace Bl
section
variable {G : Gd hd.heap_39} {A : Around} {E : Value → Shared → Prop} {σ τ : Led} {s : Shared} {env : Env}

def hashNo (m w : Int) : Int := ((13862943611198906 * m).fdiv w + 10000000000000000).fdiv 20000000000000000
theorem sp_params {C : Addr} {m w : Nat} {t1 t2 : Tok} {R' : Result → Shared → Prop} (R : Rep G σ s) (hroom : A.depth + 1 < recursionLimit) (hh : A.handled = none) (hw : 0 < w) (hw1 : w ≤ 1000) (hm : m ≤ 1000) (hk : hashNo m w ≠ 0)
    (h : ∀ l t s', Rep G ((l, isTplX [.int m t2, .int (hashNo m w) t, .int m t2]) :: σ) s' → R' (.ok (.ret (.ref l))) s') :
    codeAny (model G.prog G.w) A (.call (.ref 297) ⟨[.ref C, .int w t1, .int m t2], []⟩) R' s := by
  refine c_K [("cls", .ref C), ("estimated_elements", .int w t1), ("false_positive_rate", .int m t2)]
    [("cls", some (.ref C)), ("estimated_elements", some (.int w t1)), ("false_positive_rate", some (.int m t2)), ("valid_prms", none), ("msg", none), ("t_fpr", none), ("m_bt", none), ("number_hashes", none)] R (by omega) rfl (fun _ => BindsTo.of_eq rfl) (fun L s' env R he hf hfn => ?_)
  walk_at "b_go"
  refine w_TupleX ?_
  walk_at "b_go"
  refine ⟨by show 3 ≤ sizeLine; decide, _, by assumption, fun tp s₂ R₂ => ?_⟩
  walk_at "b_go"
  refine w_isi3 (tp := tp) (by assumption) (by walk_at "b_mem") (fun s₃ R₃ => ?_)
  walk_at "b_go"
  rw [show decide (0 < (w : Int)) = true from decide_eq_true (by omega)]
  walk_at "b_go"
  refine w_TupleX ?_
  walk_at "b_go"
  refine ⟨by show 3 ≤ sizeLine; decide, _, by assumption, fun tp' s₄ R₄ => ?_⟩
  walk_at "b_go"
  refine w_isi3 (tp := tp') (by assumption) (by walk_at "b_mem") (fun s₅ R₅ => ?_)
  walk_at "b_go"
  rw [show decide (0 ≤ (m : Int)) = true from decide_eq_true (by omega)]
  walk_at "b_go"
  refine Assign_Tuple_swapped (names := ["t_fpr", "m_bt", "number_hashes"]) ?_ (by with_unfolding_all rfl) (by unfold swappedStores Env.blockKind Env.kindOf; rw [he.scope]; rfl)
  refine w_TupleX ?_
  walk_at "b_go"
  refine w_mul (by assumption) (.of_left (by decide +kernel)) (fun _ _ _ => ?_)
  walk_at "b_go"
  refine w_fdiv (by assumption) (by omega) (log_small (k := 10) (by omega) (by omega) (by decide)) (fun _ _ _ => ?_)
  walk_at "b_go"
  refine w_pow (by assumption) (by decide) (by decide +kernel) (fun _ _ _ => ?_)
  walk_at "b_go"
  refine w_pow (by assumption) (by decide) (by decide +kernel) (fun _ _ _ => ?_)
  refine w_mul (by assumption) (.of_left (by decide +kernel)) (fun _ _ _ => ?_)
  refine w_fdiv (by assumption) (by decide) (by decide +kernel) (fun t₃ s₆ R₆ => ?_)
  walk_at "b_go"
  refine ⟨by show 3 ≤ sizeLine; decide, _, by assumption, fun l₁ s₇ R₇ => ?_⟩
  refine w_swap3 hh R₇ Holds.head (fun s₈ R₈ => ?_)
  walk_at "b_go"
  refine ite_beq (fun q => absurd q (by have e : (10 : Int) ^ (16 : Int).toNat = 10000000000000000 := by decide +kernel
                                        rw [e]; exact hk)) (fun _ => ?_)
  walk_at "b_go"
  refine w_TupleX ?_
  walk_at "b_go"
  refine ⟨by show 3 ≤ sizeLine; decide, _, by assumption, fun l₂ s₉ R₉ => ?_⟩
  walk_at "b_go"
  exact h l₂ t₃ s₉ (R₉.sel (by walk_at "b_sel"))
end
end Bl


namespace Bl
section
variable {G : Gd hd.heap_39} {A : Around} {E : Value → Shared → Prop} {σ τ : Led} {s : Shared} {env : Env}

def svsA : List SV := [.va .none, .no, .no, .nu 0, .nu 0, .nu 0, .no, .no, .nu 0, .nu 0, .va (.bool false), .st "regular", .st "B"]
theorem sp_load_init {x f dx : Addr} {m w : Nat} {t1 t2 : Tok} {R' : Result → Shared → Prop} (R : Rep G ((x, obj 445 dx svsA) :: τ) s) (hdx : Holds G τ dx isAny) (hroom : A.depth + 3 < recursionLimit) (hh : A.handled = none) (hw : 0 < w) (hw1 : w ≤ 1000) (hm : m ≤ 1000) (hk : hashNo m w ≠ 0)
    (h : ∀ b s', Rep G ((x, obj 445 dx (cbf b f m (hashNo m w) w 0)) :: (b, isInts (List.replicate m 0)) :: τ) s' → R' (.ok (.ret .none)) s') :
    codeAny (model G.prog G.w) A (.call (.ref 378) ⟨[.ref x, .none, .ref f, .none, .int w t1, .int m t2], []⟩) R' s := by
  refine c_K [("self", .ref x), ("filepath", .none), ("hash_function", .ref f), ("hex_string", .none), ("est_elements", .int w t1), ("false_positive_rate", .int m t2)]
    [("self", some (.ref x)), ("filepath", some .none), ("hash_function", some (.ref f)), ("hex_string", some .none), ("est_elements", some (.int w t1)), ("false_positive_rate", some (.int m t2)), ("fpr", none), ("n_hashes", none), ("n_bits", none)] R (by omega) rfl (fun _ => BindsTo.of_eq rfl) (fun L s' env R he hf hfn => ?_)
  walk_at "b_go"
  refine Assign_Tuple ?_ (by with_unfolding_all rfl) (by unfold swappedStores Env.blockKind Env.kindOf; rw [he.scope])
  walk_at "b_go"
  refine w_methcm (C := 445) (f := 297) (by assumption) (by walk_at "b_mem") (by walk_at "b_mem") (by kernel_rfl) (fun q s₂ R₂ => ?_)
  refine w_cwM (f := 297) (x := .ref 445) (by kernel_rfl) ?_
  walk_at "b_go"
  refine ⟨⟨_, by assumption, by walk_at "b_mem"⟩, ?_⟩
  refine x_callM (c_bound (by assumption) (by walk_at "b_mem") (sp_params (by assumption) (b_room (k := 1) (by omega)) hh hw hw1 hm hk (fun l t3 s₃ R₃ => ?_)))
  refine w_assign3 hh R₃ (by walk_at "b_mem") (fun s₄ R₄ => ?_)
  walk_at "b_go"
  refine x_callM (sp_set_values (Rep.sel (by assumption) (by walk_at "b_sel")) (by walk_at "b_mem") (b_room (k := 1) (by omega)) hh (fun s₅ R₅ => ?_))
  walk_at "b_go"
  refine w_List ?_
  walk_at "b_go"
  refine ⟨by show 1 ≤ sizeLine; decide, _, by assumption, fun l₀ s₆ R₆ => ?_⟩
  walk_at "b_go"
  refine w_mulL (l := l₀) (by assumption) (by walk_at "b_mem") (by omega) (by omega) (fun b s₇ R₇ => ?_)
  walk_at "b_go"
  rw [Int.toNat_natCast] at *
  exact h b _ (Rep.sel (by assumption) (by walk_at "b_sel"))
end
end Bl


namespace Bl
section
variable {G : Gd hd.heap_39} {A : Around} {E : Value → Shared → Prop} {σ τ : Led} {s : Shared} {env : Env}

def svsF : List SV := [.va .none, .no, .no, .no, .no, .no, .no, .no, .no, .no, .no, .no, .no]
theorem sp_init131 {x f dx : Addr} {m w : Nat} {t1 t2 : Tok} {R' : Result → Shared → Prop} (R : Rep G ((x, obj 445 dx svsF) :: τ) s) (hdx : Holds G τ dx isAny) (hroom : A.depth + 4 < recursionLimit) (hh : A.handled = none) (hw : 0 < w) (hw1 : w ≤ 1000) (hm : m ≤ 1000) (hk : hashNo m w ≠ 0)
    (h : ∀ b s', Rep G ((x, obj 445 dx (cbf b f m (hashNo m w) w 0)) :: (b, isInts (List.replicate m 0)) :: τ) s' → R' (.ok (.ret .none)) s') :
    codeAny (model G.prog G.w) A (.call (.ref 131) ⟨[.ref x, .int w t1, .int m t2, .none, .none, .ref f], []⟩) R' s := by
  refine c_K [("self", .ref x), ("est_elements", .int w t1), ("false_positive_rate", .int m t2), ("filepath", .none), ("hex_string", .none), ("hash_function", .ref f)]
    [("self", some (.ref x)), ("est_elements", some (.int w t1)), ("false_positive_rate", some (.int m t2)), ("filepath", some .none), ("hex_string", some .none), ("hash_function", some (.ref f))] R (by omega) rfl (fun X => kp_binds X (fun _ => by kernel_rfl)) (fun L s' env R he hf hfn => ?_)
  walk_at "b_go"
  refine x_callM (sp_load_init (Rep.sel (by assumption) (by walk_at "b_sel")) (by walk_at "b_mem") (b_room (k := 3) (by omega)) hh hw hw1 hm hk (fun b s₂ R₂ => ?_))
  walk_at "b_go"
  exact h _ _ (R₂.sel (by walk_at "b_sel"))

theorem hfile_of (hP : G.prog = PySem.Challenge.pw_sv0017_05) : ((G.prog.main.file : Str) == Str.ofString "/claim/cut.py") = true := by rw [hP]; kernel_rfl
theorem htop_of (hP : G.prog = PySem.Challenge.pw_sv0017_05) : (G.prog.main.scope.names.lookup ("super" : Str)).isSome = false := by rw [hP]; kernel_rfl
end
end Bl


namespace Bl
section
variable {G : Gd hd.heap_39} {A : Around} {E : Value → Shared → Prop} {σ τ : Led} {s : Shared} {env : Env}

/-- CountingBloomFilter(w, m, hash_function=f) -/
theorem sp_new {f : Addr} {m w : Nat} {t1 t2 : Tok} {R' : Result → Shared → Prop} (R : Rep G σ s) (hP : G.prog = PySem.Challenge.pw_sv0017_05) (hroom : A.depth + 6 < recursionLimit) (hh : A.handled = none) (hw : 0 < w) (hw1 : w ≤ 1000) (hm : m ≤ 1000) (hk : hashNo m w ≠ 0)
    (h : ∀ x dx b s', Rep G ((x, obj 445 dx (cbf b f m (hashNo m w) w 0)) :: (b, isInts (List.replicate m 0)) :: (dx, isAny) :: σ) s' → R' (.ok (.ret (.ref x))) s') :
    codeAny (model G.prog G.w) A (.call (.ref 445) ⟨[.int w t1, .int m t2], [("hash_function", .ref f)]⟩) R' s := by
  refine c_make (fI := 371) 13 R (fun x dx s₁ R₁ => ?_)
  refine c_KAt [("self", .ref x), ("est_elements", .int w t1), ("false_positive_rate", .int m t2), ("filepath", .none), ("hex_string", .none), ("hash_function", .ref f)] [("self", some (.ref x)), ("est_elements", some (.int w t1)), ("false_positive_rate", some (.int m t2)), ("filepath", some .none), ("hex_string", some .none), ("hash_function", some (.ref f))] R₁ (by rw [depth_under_kw]; omega) rfl (fun X => kp_binds X (fun _ => by kernel_rfl)) (fun L s' env R he hf hfn => ?_)
  refine ks_wpAt_execs_cons (wpAt_of_wpAny ?_)
  walk_at "b_go"
  refine ks_wpAt_execs_cons (ks_wpAt_Expr_any (ks_wpAt_MethodCall ?_) (by unfold interactive; rw [he.kind]; rfl) (by with_unfolding_all rfl))
  refine w_superNode (x := x) (C := 445) (D := 445) (cc := 357) (by assumption) he hfn.1 (by walk_at "b_mem") (by walk_at "b_mem") (by walk_at "b_in") (by kernel_rfl) rfl rfl (by walk_at "b_in") rfl rfl (hfile_of hP) (htop_of hP) rfl rfl (by kernel_rfl) (by kernel_rfl) (by kernel_rfl) (by kernel_rfl) (by kernel_rfl) (by kernel_rfl) (fun so s₃ R₃ => ?_)
  refine w_superMeth (f2 := 131) R₃ (by walk_at "b_mem") (by walk_at "b_mem") (by kernel_rfl) (by kernel_rfl) (by kernel_rfl) (by kernel_rfl) (fun q s₄ R₄ => ?_)
  refine w_cwM' (f := 131) (x := .ref x) (by kernel_rfl) ?_
  walk_at "b_go"
  refine ⟨⟨_, by assumption, by walk_at "b_mem"⟩, ?_⟩
  refine x_callM (c_bound (by assumption) (by walk_at "b_mem") (sp_init131 (Rep.sel (by assumption) (by walk_at "b_sel")) (by walk_at "b_mem") (by rw [dd, depth_under_kw]; omega) hh hw hw1 hm hk (fun b s₅ R₅ => ?_)))
  refine PySem.wpAt_of_wpAny ?_
  walk_at "b_go"
  exact ⟨rfl, h _ _ _ _ (Rep.sel (by assumption) (by walk_at "b_sel"))⟩
/-- CountingBloomFilter(est_elements=w, false_positive_rate=m, hash_function=f) -/
theorem sp_newK {f : Addr} {m w : Nat} {t1 t2 : Tok} {R' : Result → Shared → Prop} (R : Rep G σ s) (hP : G.prog = PySem.Challenge.pw_sv0017_05) (hroom : A.depth + 6 < recursionLimit) (hh : A.handled = none) (hw : 0 < w) (hw1 : w ≤ 1000) (hm : m ≤ 1000) (hk : hashNo m w ≠ 0)
    (h : ∀ x dx b s', Rep G ((x, obj 445 dx (cbf b f m (hashNo m w) w 0)) :: (b, isInts (List.replicate m 0)) :: (dx, isAny) :: σ) s' → R' (.ok (.ret (.ref x))) s') :
    codeAny (model G.prog G.w) A (.call (.ref 445) ⟨[], [("est_elements", .int w t1), ("false_positive_rate", .int m t2), ("hash_function", .ref f)]⟩) R' s := by
  refine c_make (fI := 371) 13 R (fun x dx s₁ R₁ => ?_)
  refine c_KAt [("self", .ref x), ("est_elements", .int w t1), ("false_positive_rate", .int m t2), ("filepath", .none), ("hex_string", .none), ("hash_function", .ref f)] [("self", some (.ref x)), ("est_elements", some (.int w t1)), ("false_positive_rate", some (.int m t2)), ("filepath", some .none), ("hex_string", some .none), ("hash_function", some (.ref f))] R₁ (by rw [depth_under_kw]; omega) rfl (fun X => kp_binds X (fun _ => by kernel_rfl)) (fun L s' env R he hf hfn => ?_)
  refine ks_wpAt_execs_cons (wpAt_of_wpAny ?_)
  walk_at "b_go"
  refine ks_wpAt_execs_cons (ks_wpAt_Expr_any (ks_wpAt_MethodCall ?_) (by unfold interactive; rw [he.kind]; rfl) (by with_unfolding_all rfl))
  refine w_superNode (x := x) (C := 445) (D := 445) (cc := 357) (by assumption) he hfn.1 (by walk_at "b_mem") (by walk_at "b_mem") (by walk_at "b_in") (by kernel_rfl) rfl rfl (by walk_at "b_in") rfl rfl (hfile_of hP) (htop_of hP) rfl rfl (by kernel_rfl) (by kernel_rfl) (by kernel_rfl) (by kernel_rfl) (by kernel_rfl) (by kernel_rfl) (fun so s₃ R₃ => ?_)
  refine w_superMeth (f2 := 131) R₃ (by walk_at "b_mem") (by walk_at "b_mem") (by kernel_rfl) (by kernel_rfl) (by kernel_rfl) (by kernel_rfl) (fun q s₄ R₄ => ?_)
  refine w_cwM' (f := 131) (x := .ref x) (by kernel_rfl) ?_
  walk_at "b_go"
  refine ⟨⟨_, by assumption, by walk_at "b_mem"⟩, ?_⟩
  refine x_callM (c_bound (by assumption) (by walk_at "b_mem") (sp_init131 (Rep.sel (by assumption) (by walk_at "b_sel")) (by walk_at "b_mem") (by rw [dd, depth_under_kw]; omega) hh hw hw1 hm hk (fun b s₅ R₅ => ?_)))
  refine PySem.wpAt_of_wpAny ?_
  walk_at "b_go"
  exact ⟨rfl, h _ _ _ _ (Rep.sel (by assumption) (by walk_at "b_sel"))⟩
end
end Bl


namespace Bl
section
variable {G : Gd hd.heap_39} {A : Around} {E : Value → Shared → Prop} {σ τ : Led} {s : Shared} {env : Env}

def pvs0 : List SV := List.replicate 12 .no
def pvsA : List SV := [.no, .no, .nu 0, .nu 0, .nu 0, .no, .no, .nu 0, .nu 0, .va (.bool false), .st "regular", .st "B"]
def pvs1 (m k est : Int) : List SV := [.no, .no, .nu (-((-m).fdiv 8)), .nu 0, .nu est, .nu m, .va (.ref 100), .nu m, .nu k, .va (.bool false), .st "regular", .st "B"]
def pvs2 (b : Addr) (m k est : Int) : List SV := [.no, .va (.ref b), .nu (-((-m).fdiv 8)), .nu 0, .nu est, .nu m, .va (.ref 100), .nu m, .nu k, .va (.bool false), .st "regular", .st "B"]

theorem sp_set_valuesB {x dx : Addr} {m k est : Int} {t1 t2 t3 t4 : Tok} {R' : Result → Shared → Prop} (R : Rep G ((x, obj 332 dx pvsA) :: τ) s) (hdx : Holds G τ dx isAny) (hroom : A.depth + 1 < recursionLimit) (hh : A.handled = none)
    (h : ∀ s', Rep G ((x, obj 332 dx (pvs1 m k est)) :: τ) s' → R' (.ok (.ret .none)) s') :
    codeAny (model G.prog G.w) A (.call (.ref 307) ⟨[.ref x, .int est t1, .int m t2, .int k t3, .int m t4, .none], []⟩) R' s := by
  refine c_K [("self", .ref x), ("est_els", .int est t1), ("fpr", .int m t2), ("n_hashes", .int k t3), ("n_bits", .int m t4), ("hash_func", .none)]
    [("self", some (.ref x)), ("est_els", some (.int est t1)), ("fpr", some (.int m t2)), ("n_hashes", some (.int k t3)), ("n_bits", some (.int m t4)), ("hash_func", some .none)] R (by omega) rfl (fun _ => BindsTo.of_eq rfl) (fun L s' env R he hf hfn => ?_)
  walk_at "b_go"
  refine w_fdiv (by assumption) (by decide) (by decide +kernel) (fun _ _ _ => ?_)
  walk_at "b_go"
  exact h _ (Rep.sel (by assumption) (by walk_at "b_sel"))

theorem sp_load_initB {x dx : Addr} {m w : Nat} {t1 t2 : Tok} {R' : Result → Shared → Prop} (R : Rep G ((x, obj 332 dx pvsA) :: τ) s) (hdx : Holds G τ dx isAny) (hroom : A.depth + 3 < recursionLimit) (hh : A.handled = none) (hw : 0 < w) (hw1 : w ≤ 1000) (hm : m ≤ 1000) (hk : hashNo m w ≠ 0)
    (h : ∀ b s', Rep G ((x, obj 332 dx (pvs2 b m (hashNo m w) w)) :: τ) s' → R' (.ok (.ret .none)) s') :
    codeAny (model G.prog G.w) A (.call (.ref 138) ⟨[.ref x, .none, .none, .none, .int w t1, .int m t2], []⟩) R' s := by
  refine c_K [("self", .ref x), ("filepath", .none), ("hash_function", .none), ("hex_string", .none), ("est_elements", .int w t1), ("false_positive_rate", .int m t2)]
    [("self", some (.ref x)), ("filepath", some .none), ("hash_function", some .none), ("hex_string", some .none), ("est_elements", some (.int w t1)), ("false_positive_rate", some (.int m t2)), ("fpr", none), ("n_hashes", none), ("n_bits", none)] R (by omega) rfl (fun _ => BindsTo.of_eq rfl) (fun L s' env R he hf hfn => ?_)
  walk_at "b_go"
  refine Assign_Tuple ?_ (by with_unfolding_all rfl) (by unfold swappedStores Env.blockKind Env.kindOf; rw [he.scope])
  walk_at "b_go"
  refine w_methcm (C := 332) (f := 297) (by assumption) (by walk_at "b_mem") (by walk_at "b_mem") (by kernel_rfl) (fun q s₂ R₂ => ?_)
  refine w_cwM (f := 297) (x := .ref 332) (by kernel_rfl) ?_
  walk_at "b_go"
  refine ⟨⟨_, by assumption, by walk_at "b_mem"⟩, ?_⟩
  refine x_callM (c_bound (by assumption) (by walk_at "b_mem") (sp_params (by assumption) (b_room (k := 1) (by omega)) hh hw hw1 hm hk (fun l t3 s₃ R₃ => ?_)))
  refine w_assign3 hh R₃ (by walk_at "b_mem") (fun s₄ R₄ => ?_)
  walk_at "b_go"
  refine x_callM (sp_set_valuesB (Rep.sel (by assumption) (by walk_at "b_sel")) (by walk_at "b_mem") (b_room (k := 1) (by omega)) hh (fun s₅ R₅ => ?_))
  walk_at "b_go"
  refine w_List ?_
  walk_at "b_go"
  refine ⟨by show 1 ≤ sizeLine; decide, _, by assumption, fun l₀ s₆ R₆ => ?_⟩
  walk_at "b_go"
  have e1 := Int.fdiv_eq_ediv_of_nonneg (-(m : Int)) (show (0:Int) ≤ 8 by decide)
  refine w_mulL (l := l₀) (by assumption) (by walk_at "b_mem") (by omega) (by omega) (fun b s₇ R₇ => ?_)
  walk_at "b_go"
  exact h b _ (Rep.sel (by assumption) (by walk_at "b_sel"))

theorem sp_init131B {x dx : Addr} {m w : Nat} {t1 t2 : Tok} {R' : Result → Shared → Prop} (R : Rep G ((x, obj 332 dx pvs0) :: τ) s) (hdx : Holds G τ dx isAny) (hroom : A.depth + 4 < recursionLimit) (hh : A.handled = none) (hw : 0 < w) (hw1 : w ≤ 1000) (hm : m ≤ 1000) (hk : hashNo m w ≠ 0)
    (h : ∀ b s', Rep G ((x, obj 332 dx (pvs2 b m (hashNo m w) w)) :: τ) s' → R' (.ok (.ret .none)) s') :
    codeAny (model G.prog G.w) A (.call (.ref 131) ⟨[.ref x, .int w t1, .int m t2], []⟩) R' s := by
  refine c_K [("self", .ref x), ("est_elements", .int w t1), ("false_positive_rate", .int m t2), ("filepath", .none), ("hex_string", .none), ("hash_function", .none)]
    [("self", some (.ref x)), ("est_elements", some (.int w t1)), ("false_positive_rate", some (.int m t2)), ("filepath", some .none), ("hex_string", some .none), ("hash_function", some .none)] R (by omega) rfl (fun X => kp_binds X (fun _ => by kernel_rfl)) (fun L s' env R he hf hfn => ?_)
  walk_at "b_go"
  refine x_callM (sp_load_initB (Rep.sel (by assumption) (by walk_at "b_sel")) (by walk_at "b_mem") (b_room (k := 3) (by omega)) hh hw hw1 hm hk (fun b s₂ R₂ => ?_))
  walk_at "b_go"
  exact h _ _ (R₂.sel (by walk_at "b_sel"))

/-- BloomFilter(w, m) -/
theorem sp_newB {m w : Nat} {t1 t2 : Tok} {R' : Result → Shared → Prop} (R : Rep G σ s) (hroom : A.depth + 6 < recursionLimit) (hh : A.handled = none) (hw : 0 < w) (hw1 : w ≤ 1000) (hm : m ≤ 1000) (hk : hashNo m w ≠ 0)
    (h : ∀ x dx svs s', Rep G ((x, obj 332 dx svs) :: (dx, isAny) :: σ) s' → R' (.ok (.ret (.ref x))) s') :
    codeAny (model G.prog G.w) A (.call (.ref 332) ⟨[.int w t1, .int m t2], []⟩) R' s := by
  refine c_make (fI := 131) 12 R (fun x dx s₁ R₁ => ?_)
  refine sp_init131B R₁ .head (by rw [depth_under_kw]; omega) hh hw hw1 hm hk (fun b s₂ R₂ => ?_)
  exact ⟨rfl, h _ _ _ _ R₂⟩
end
end Bl


namespace Bl
section
variable {G : Gd hd.heap_39} {A : Around} {E : Value → Shared → Prop} {σ τ : Led} {s : Shared} {env : Env}

theorem sp_exc37 {e d : Addr} {y : Str} {t : Tok} {u : Value} {R' : Result → Shared → Prop} (R : Rep G ((e, isExcU 90 (some d)) :: (d, isNs1 (one "message" u)) :: τ) s) (hP : G.prog = PySem.Challenge.pw_sv0017_05) (hroom : A.depth + 1 < recursionLimit)
    (h : ∀ s', Rep G ((e, isExcU 90 (some d)) :: τ) s' → R' (.ok (.ret .none)) s') :
    codeAny (model G.prog G.w) A (.call (.ref 37) ⟨[.ref e, .str y t], []⟩) R' s := by
  refine c_KAt [("self", .ref e), ("message", .str y t)] [("self", some (.ref e)), ("message", some (.str y t))] R (by omega) rfl (fun _ => BindsTo.of_eq rfl) (fun L s' env R he hf hfn => ?_)
  refine ks_wpAt_execs_cons (PySem.wpAt_of_wpAny ?_)
  walk_at "b_go"
  refine u_setOld (d := d) (by assumption) (by walk_at "b_mem") (by walk_at "b_upd") (one_within _ _) (by decide) (by kernel_rfl) (fun s₁ R₁ => ?_)
  refine ks_wpAt_execs_cons (ks_wpAt_Expr_any (ks_wpAt_MethodCall ?_) (by unfold interactive; rw [he.kind]; rfl) (by with_unfolding_all rfl))
  refine w_superNodeU (x := e) (C := 90) (D := 47) (cc := 25) (by assumption) he hfn.1 (by walk_at "b_mem") (by walk_at "b_mem") (by walk_at "b_in") (by kernel_rfl) rfl rfl (by walk_at "b_in") rfl rfl (hfile_of hP) (htop_of hP) rfl rfl (by kernel_rfl) (by kernel_rfl) (by kernel_rfl) (by kernel_rfl) (by kernel_rfl) (by kernel_rfl) (fun so s₃ R₃ => ?_)
  refine w_superEI R₃ (by walk_at "b_mem") (by kernel_rfl) (by kernel_rfl) (by kernel_rfl) (fun q s₄ R₄ => ?_)
  refine w_cwMw (x := e) ?_
  walk_at "b_go"
  refine u_get (d := d) (by assumption) (by walk_at "b_mem") (by walk_at "b_mem") (if_pos rfl) rfl (by kernel_rfl) (fun s₅ R₅ => ?_)
  walk_at "b_go"
  refine ⟨⟨_, by assumption, by walk_at "b_mem"⟩, ?_⟩
  refine x_callM (c_mw (C := 90) (dx := some d) (by assumption) rfl (by walk_at "b_mem") (by walk_at "b_upd") (fun s₆ R₆ => ?_))
  refine PySem.wpAt_of_wpAny ?_
  walk_at "b_go"
  exact h _ (Rep.sel (by assumption) (by walk_at "b_sel"))

theorem sp_exc87 {e : Addr} {y : Str} {t : Tok} {R' : Result → Shared → Prop} (R : Rep G ((e, isExcU 90 none) :: τ) s) (hP : G.prog = PySem.Challenge.pw_sv0017_05) (hroom : A.depth + 2 < recursionLimit)
    (h : ∀ d s', Rep G ((e, isExcU 90 (some d)) :: τ) s' → R' (.ok (.ret .none)) s') :
    codeAny (model G.prog G.w) A (.call (.ref 87) ⟨[.ref e, .str y t], []⟩) R' s := by
  refine c_KAt [("self", .ref e), ("message", .str y t)] [("self", some (.ref e)), ("message", some (.str y t))] R (by omega) rfl (fun _ => BindsTo.of_eq rfl) (fun L s' env R he hf hfn => ?_)
  refine ks_wpAt_execs_cons (PySem.wpAt_of_wpAny ?_)
  walk_at "b_go"
  refine u_setNew (σ := (L, isNs [("self", some (.ref e)), ("message", some (.str y t))]) :: τ) (Rep.sel (by assumption) (by walk_at "b_sel")) (by kernel_rfl) (fun d s₁ R₁ => ?_)
  refine ks_wpAt_execs_cons (ks_wpAt_Expr_any (ks_wpAt_MethodCall ?_) (by unfold interactive; rw [he.kind]; rfl) (by with_unfolding_all rfl))
  refine w_superNodeU (x := e) (C := 90) (D := 90) (cc := 75) (by assumption) he hfn.1 (by walk_at "b_mem") (by walk_at "b_mem") (by walk_at "b_in") (by kernel_rfl) rfl rfl (by walk_at "b_in") rfl rfl (hfile_of hP) (htop_of hP) rfl rfl (by kernel_rfl) (by kernel_rfl) (by kernel_rfl) (by kernel_rfl) (by kernel_rfl) (by kernel_rfl) (fun so s₃ R₃ => ?_)
  refine w_superMethU (f2 := 37) R₃ (by walk_at "b_mem") (by kernel_rfl) (by kernel_rfl) (by kernel_rfl) (by kernel_rfl) (fun q s₄ R₄ => ?_)
  refine w_cwM' (f := 37) (x := .ref e) (by kernel_rfl) ?_
  walk_at "b_go"
  refine u_get (d := d) (by assumption) (by walk_at "b_mem") (by walk_at "b_mem") (if_pos rfl) rfl (by kernel_rfl) (fun s₅ R₅ => ?_)
  walk_at "b_go"
  refine ⟨⟨_, by assumption, by walk_at "b_mem"⟩, ?_⟩
  refine x_callM (c_bound (by assumption) (by walk_at "b_mem") (sp_exc37 (Rep.sel (by assumption) (by walk_at "b_sel")) hP (b_room (k := 1) (by omega)) (fun s₆ R₆ => ?_)))
  refine PySem.wpAt_of_wpAny ?_
  walk_at "b_go"
  exact h _ _ (Rep.sel (by assumption) (by walk_at "b_sel"))

/-- SimilarityError(text) -/
theorem sp_simErr {y : Str} {t : Tok} {R' : Result → Shared → Prop} (R : Rep G σ s) (hP : G.prog = PySem.Challenge.pw_sv0017_05) (hroom : A.depth + 4 < recursionLimit)
    (h : ∀ e d s', Rep G ((e, isExcU 90 (some d)) :: σ) s' → R' (.ok (.ret (.ref e))) s') :
    codeAny (model G.prog G.w) A (.call (.ref 90) ⟨[.str y t], []⟩) R' s := by
  refine c_makeExc (fI := 87) R rfl (fun e s₁ R₁ => ?_) (by show 1 ≤ sizeLine; decide)
  refine sp_exc87 R₁ hP (by rw [depth_under_kw]; omega) (fun d s₂ R₂ => ⟨rfl, h _ _ _ R₂⟩)
end
end Bl


namespace Bl
section
variable {G : Gd hd.heap_39} {A : Around} {E : Value → Shared → Prop} {σ τ : Led} {s : Shared} {env : Env}

theorem sp_isC {x dx : Addr} {svs : List SV} {R' : Result → Shared → Prop} (R : Rep G σ s) (hX : Holds G σ x (obj 445 dx svs)) (hroom : A.depth < recursionLimit)
    (h : ∀ s', Rep G σ s' → R' (.ok (.ret (.bool true))) s') : codeAny (model G.prog G.w) A (.call (.ref 353) ⟨[.ref x], []⟩) R' s := by
  refine c_K [("second", .ref x)] [("second", some (.ref x))] R hroom rfl (fun _ => BindsTo.of_eq rfl) (fun L s' env R he hf hfn => ?_)
  walk_at "b_go"
  refine w_isiYes (D := 445) (C := 445) (by assumption) (by walk_at "b_mem") (by kernel_rfl) ?_
  exact h _ (Rep.sel (by assumption) (by walk_at "b_sel"))
theorem sp_isB {x dx : Addr} {svs : List SV} {R' : Result → Shared → Prop} (R : Rep G σ s) (hX : Holds G σ x (obj 332 dx svs)) (hdx : Holds G σ dx isAny) (hroom : A.depth < recursionLimit)
    (h : ∀ s', Rep G σ s' → R' (.ok (.ret (.bool false))) s') : codeAny (model G.prog G.w) A (.call (.ref 353) ⟨[.ref x], []⟩) R' s := by
  refine c_K [("second", .ref x)] [("second", some (.ref x))] R hroom rfl (fun _ => BindsTo.of_eq rfl) (fun L s' env R he hf hfn => ?_)
  walk_at "b_go"
  refine w_isiNot (D := 332) (C := 445) (by assumption) (by walk_at "b_mem") (by walk_at "b_mem") (by kernel_rfl) (fun s₁ R₁ => ?_)
  exact h _ (Rep.sel (by assumption) (by walk_at "b_sel"))

/-- union with a plain filter -/
theorem sp_unionB {x y dy : Addr} {svs : List SV} {outer : List Env} {R' : Result → Shared → Prop} (R : Rep G σ s) (hY : Holds G σ y (obj 332 dy svs)) (hdy : Holds G σ dy isAny)
    (hroom : A.depth + 1 < recursionLimit) (hh : A.handled = none) (hfr : A.frames = some outer) (hF : FramesIn σ outer)
    (h : ∀ e T s', T ∉ G.ltabs → Rep G ((e, isExcT (.type "TypeError") T) :: (T, isTb) :: σ) s' → R' (.error (.ref e)) s') :
    codeAny (model G.prog G.w) A (.call (.ref 434) ⟨[.ref x, .ref y], []⟩) R' s := by
  refine c_K [("self", .ref x), ("second", .ref y)] [("self", some (.ref x)), ("second", some (.ref y)), ("res", none), ("i", none), ("tmp", none)] R (by omega) rfl (fun _ => BindsTo.of_eq rfl) (fun L s' env R he hf hfn => ?_)
  walk_at "b_go"
  refine x_callM (sp_isB (by assumption) (by walk_at "b_mem") (by walk_at "b_mem") (b_room0 (by omega)) (fun s₂ R₂ => ?_))
  walk_at "b_go"
  refine Raise_madeB PySem.F.excCall_TypeError PySem.F.excRaise_TypeError hh ?_
  walk_at "b_go"
  refine ⟨rfl, ?_⟩
  walk_at "b_go"
  refine ⟨by show 1 ≤ sizeLine; decide, fun h' e q => ?_⟩
  have R₄ := (rep_made (by assumption) q).sel (τ := (e, isExc0 (.type "TypeError")) :: (L, isNs [("self", some (.ref x)), ("second", some (.ref y)), ("res", none), ("i", none), ("tmp", none)]) :: σ) (by walk_at "b_sel")
  refine w_leaving0 R₄ (Around.frames_deeper hfr) (hF.push he.kind hf) (fun T s₅ hT R₅ => ?_)
  exact h e T s₅ hT (R₅.sel (by walk_at "b_sel"))
end
end Bl


namespace Bl
section
variable {G : Gd hd.heap_39} {A : Around} {E : Value → Shared → Prop} {σ τ : Led} {s : Shared} {env : Env}

theorem take_step {l z : List Int} {i : Nat} {v : Int} (hi : i < l.length) (hz : i < z.length) (hv : l[i]? = some v) : (l.take i ++ z.drop i).set i v = l.take (i + 1) ++ z.drop (i + 1) := by
  rw [List.set_append_right _ _ (by simp; omega)]
  have e : i - (l.take i).length = 0 := by simp; omega
  rw [e, List.drop_eq_getElem_cons hz, List.set_cons_zero, List.take_add_one, hv, List.append_assoc]
  rfl
def sumsOf (ns ns' : List Int) : List Int := List.zipWith (fun a b => a + b) ns ns'
theorem sumsOf_len {ns ns' : List Int} (e : ns.length = ns'.length) : (sumsOf ns ns').length = ns.length := by simp [sumsOf, e]

theorem x_callK {f : Value} {args : List Value} {pos : List Value} {kws kw : List (Str × Value)} {Q : Value → Shared → Prop} (h : codeAny (model G.prog G.w) A (.call f ⟨pos, kw⟩) (fun r s' => match r with | .ok (.ret v) => Q v s' | .ok _ => False | .error e => E e s') s) (ha : args = pos := by with_unfolding_all rfl) (hk : kws = kw := by with_unfolding_all rfl) :
    wpAny (model G.prog G.w) A (call f args kws) Q E s := by subst ha; subst hk; exact wpAny_call h
theorem sp_union {x b f y b' f' dx dy : Addr} {m k m' k' w : Nat} {est' n n' salt salt' : Int} {ns ns' : List Int} {outer : List Env} {R' : Result → Shared → Prop} (R : Rep G σ s)
    (hX : Holds G σ x (obj 445 dx (cbf b f m k w n))) (hB : Holds G σ b (isInts ns)) (hY : Holds G σ y (obj 445 dy (cbf b' f' m' k' est' n'))) (hB' : Holds G σ b' (isInts ns')) (hdx : Holds G σ dx isAny) (hdy : Holds G σ dy isAny)
    (hf : IsHash G σ f salt) (hf' : IsHash G σ f' salt') (hP : G.prog = PySem.Challenge.pw_sv0017_05) (hg : 436 ∈ G.gtabs) (hg2 : 271 ∈ G.gtabs) (hgp : G.gensP = AllBare)
    (hroom : A.depth + 10 < recursionLimit) (hun : A.units + 200 < cLine) (hh : A.handled = none) (hfr : A.frames = some outer) (hF : FramesIn σ outer)
    (hm : m = ns.length) (hm' : m' = ns'.length) (hm0 : 0 < m) (hm1 : m ≤ 1000) (hk : hashNo m w = k) (hk0 : 0 < k) (hk1 : k ≤ 1000) (hk1' : k' ≤ 1000) (hw : 0 < w) (hw1 : w ≤ 1000)
    (h1 : ¬ (k = k' ∧ m = m' ∧ placesOf 116 salt k = placesOf 116 salt' k') → ∀ e T s', T ∉ G.ltabs → Rep G ((e, isExcT (.ref 90) T) :: (T, isTb) :: σ) s' → R' (.error (.ref e)) s')
    (h2 : (k = k' ∧ m = m' ∧ placesOf 116 salt k = placesOf 116 salt' k') → (∃ v ∈ sumsOf ns ns', U32 < v) → ∀ e T s', T ∉ G.ltabs → Rep G ((e, isExcT (.type "OverflowError") T) :: (T, isTb) :: σ) s' → R' (.error (.ref e)) s')
    (h3 : (k = k' ∧ m = m' ∧ placesOf 116 salt k = placesOf 116 salt' k') → (∀ v ∈ sumsOf ns ns', v ≤ U32) → ∀ r dr br q s', Rep G ((r, obj 445 dr (cbf br f m k w q)) :: (br, isInts (sumsOf ns ns')) :: (dr, isAny) :: σ) s' → R' (.ok (.ret (.ref r))) s') :
    codeAny (model G.prog G.w) A (.call (.ref 434) ⟨[.ref x, .ref y], []⟩) R' s := by
  refine c_K [("self", .ref x), ("second", .ref y)] [("self", some (.ref x)), ("second", some (.ref y)), ("res", none), ("i", none), ("tmp", none)] R (by omega) rfl (fun _ => BindsTo.of_eq rfl) (fun L s' env R he hf' hfn => ?_)
  have s2 : ∀ {o1 o2 o3 : Option Value}, Sub G σ ((fun (o1 o2 o3 : Option Value) => (L, isNs [("self", some (.ref x)), ("second", some (.ref y)), ("res", o1), ("i", o2), ("tmp", o3)])) o1 o2 o3 :: σ) := Sub.refl.cons
  walk_at "b_go"
  refine x_callM (sp_isC (by assumption) (by walk_at "b_mem") (b_room0 (by omega)) (fun s₂ R₂ => ?_))
  walk_at "b_go"
  refine x_callM (sp_similar (by assumption) (by walk_at "b_mem") (by walk_at "b_mem") (by walk_at "b_mem") (by walk_at "b_mem") (hf.mono s2) (IsHash.mono (by assumption) s2) (b_room (k := 4) (by omega)) (by rw [du]; omega) hh hk1 hk1' (fun s₃ R₃ => ?_))
  walk_at "b_go"
  have hF2 : ∀ {o1 o2 o3 : Option Value}, FramesIn ((fun (o1 o2 o3 : Option Value) => (L, isNs [("self", some (.ref x)), ("second", some (.ref y)), ("res", o1), ("i", o2), ("tmp", o3)])) o1 o2 o3 :: σ) (env :: outer) := hF.push he.kind ‹env.frame = some L›
  by_cases hs : k = k' ∧ m = m' ∧ placesOf 116 salt k = placesOf 116 salt' k'
  rotate_left
  · rw [if_pos (by simp [hs])]
    walk_at "b_go"
    refine x_RaiseU (C := 90) hh rfl (by kernel_rfl) ?_
    walk_at "b_go"
    refine x_callM (sp_simErr (by assumption) hP (b_room (k := 4) (by omega)) (fun e d s₄ R₄ => ⟨e, _, _, rfl, R₄, .head, ?_⟩))
    refine w_leaving0 (excU_0 R₄) (Around.frames_deeper hfr) hF2 (fun T s₅ hT R₅ => ?_)
    exact h1 hs e T s₅ hT (R₅.sel (by walk_at "b_sel"))
  rw [if_neg (fun q => by rw [decide_eq_true hs] at q; cases q)]
  walk_at "b_go"
  refine x_callK (sp_newK (by assumption) hP (b_room (k := 6) (by omega)) hh hw hw1 hm1 (by rw [hk]; omega) (fun r dr br s₄ R₄ => ?_))
  rw [hk] at R₄
  walk_at "b_go"
  refine w_iterRange (n := m) (by assumption) (by walk_at "b_mem") (by omega) (by omega) (by omega) (fun it s₅ hn R₅ => ?_)
  obtain ⟨hs1, hs2, hs3⟩ := hs
  have hml : (sumsOf ns ns').length = m := by rw [sumsOf_len (by omega)]; omega
  refine w_forLoop (Iter.range hn _ _ _) (fun i σ' => ∃ o2 o3 ms, ms = (sumsOf ns ns').take i ++ (List.replicate m (0 : Int)).drop i ∧ σ' = ((fun (o1 o2 o3 : Option Value) => (L, isNs [("self", some (.ref x)), ("second", some (.ref y)), ("res", o1), ("i", o2), ("tmp", o3)])) (some (.ref r)) o2 o3 :: (r, obj 445 dr (cbf br f m k w 0)) :: (br, isInts ms) :: (dr, isAny) :: σ)) hh (R₅.sel (by walk_at "b_sel")) ⟨none, none, List.replicate m 0, by simp, rfl⟩ (fun _ _ _ => trivial) ?_ ?_
  · rintro E' i σ' s₆ v hi ⟨t, rfl⟩ ⟨o2, o3, ms, hms, rfl⟩ R₆
    obtain ⟨a, ha⟩ : ∃ a, ns[i]? = some a := ⟨_, List.getElem?_eq_getElem (by omega)⟩
    obtain ⟨c, hc⟩ : ∃ c, ns'[i]? = some c := ⟨_, List.getElem?_eq_getElem (by omega)⟩
    have hti : (0 + (i : Int) * 1).toNat = i := by omega
    walk_at "b_go"
    refine w_itemI (n := a) (by assumption) (by walk_at "b_mem") (by omega) (by rw [hti]; exact ha) (by omega) (fun t1 => ?_)
    walk_at "b_go"
    refine w_itemI (n := c) (by assumption) (by walk_at "b_mem") (by omega) (by rw [hti]; exact hc) (by omega) (fun t2 => ?_)
    walk_at "b_go"
    refine w_setItemI (by assumption) (by walk_at "b_upd") (by omega) (by simp [hms]; omega) (by omega) (fun s₇ R₇ => ?_)
    walk_at "b_go"
    refine ⟨_, R₇, _, _, _, ?_, rfl⟩
    rw [hms, hti]
    exact take_step (by omega) (by simp; omega) (by simp [sumsOf, List.getElem?_zipWith, ha, hc])
  · rintro σ' s₆ ⟨o2, o3, ms, hms, rfl⟩ R₆
    rw [List.drop_eq_nil_of_le (by simp), List.append_nil, List.take_of_length_le (by omega)] at hms
    subst hms
    walk_at "b_go"
    have hF3 : FramesIn ((fun (o1 o2 o3 : Option Value) => (L, isNs [("self", some (.ref x)), ("second", some (.ref y)), ("res", o1), ("i", o2), ("tmp", o3)])) (some (.ref r)) o2 o3 :: (r, obj 445 dr (cbf br f m k w 0)) :: (br, isInts (sumsOf ns ns')) :: (dr, isAny) :: σ) (env :: outer) := hF2.mono fun p hp => by
      rcases List.mem_cons.mp hp with rfl | hp
      · exact .head _
      · exact .tail _ (.tail _ (.tail _ (.tail _ hp)))
    refine x_callM (sp_estimate (m := m) (k := k) (ns := sumsOf ns ns') R₆ (by walk_at "b_mem") (by walk_at "b_mem") (by walk_at "b_mem") hg hg2 hgp (b_room (k := 5) (by omega)) hh (Around.frames_deeper hfr) hF3 (by omega) hm0 hm1 hk0 hk1 (fun hv e T s₇ hT R₇ => ?_) (fun hv q t s₇ R₇ => ?_))
    · refine w_leavingT (σ := (fun (o1 o2 o3 : Option Value) => (L, isNs [("self", some (.ref x)), ("second", some (.ref y)), ("res", o1), ("i", o2), ("tmp", o3)])) (some (.ref r)) o2 o3 :: (r, obj 445 dr (cbf br f m k w 0)) :: (br, isInts (sumsOf ns ns')) :: (dr, isAny) :: σ) R₇ hT (Around.frames_deeper hfr) hF3 (fun T' s₈ hT' R₈ => ?_)
      exact h2 ⟨hs1, hs2, hs3⟩ hv e T' s₈ hT' (R₈.sel (by walk_at "b_sel"))
    · walk_at "b_go"
      exact h3 ⟨hs1, hs2, hs3⟩ hv r dr br q _ (Rep.sel (by assumption) (by walk_at "b_sel"))
end
end Bl


namespace Bl
section
variable {G : Gd hd.heap_39} {A : Around} {E : Value → Shared → Prop} {σ τ : Led} {s : Shared} {env : Env}

theorem take_skip {l z : List Int} {i : Nat} (hi : i < l.length) (hz : i < z.length) (hv : l[i]? = z[i]?) : l.take i ++ z.drop i = l.take (i + 1) ++ z.drop (i + 1) := by
  rw [List.drop_eq_getElem_cons hz, List.take_add_one, hv, List.getElem?_eq_getElem hz, List.append_assoc]
  rfl
def commOf (ns ns' : List Int) : List Int := List.zipWith (fun a b => if 0 < a ∧ 0 < b then a + b else 0) ns ns'
theorem commOf_len {ns ns' : List Int} (e : ns.length = ns'.length) : (commOf ns ns').length = ns.length := by simp [commOf, e]
theorem commOf_get {ns ns' : List Int} {i : Nat} {a c : Int} (ha : ns[i]? = some a) (hc : ns'[i]? = some c) : (commOf ns ns')[i]? = some (if 0 < a ∧ 0 < c then a + c else 0) := by simp [commOf, List.getElem?_zipWith, ha, hc]

/-- intersection with a plain filter -/
theorem sp_interB {x y dy : Addr} {svs : List SV} {outer : List Env} {R' : Result → Shared → Prop} (R : Rep G σ s) (hY : Holds G σ y (obj 332 dy svs)) (hdy : Holds G σ dy isAny)
    (hroom : A.depth + 1 < recursionLimit) (hh : A.handled = none) (hfr : A.frames = some outer) (hF : FramesIn σ outer)
    (h : ∀ e T s', T ∉ G.ltabs → Rep G ((e, isExcT (.type "TypeError") T) :: (T, isTb) :: σ) s' → R' (.error (.ref e)) s') :
    codeAny (model G.prog G.w) A (.call (.ref 427) ⟨[.ref x, .ref y], []⟩) R' s := by
  refine c_K [("self", .ref x), ("second", .ref y)] [("self", some (.ref x)), ("second", some (.ref y)), ("res", none), ("i", none), ("tmp", none)] R (by omega) rfl (fun _ => BindsTo.of_eq rfl) (fun L s' env R he hf hfn => ?_)
  walk_at "b_go"
  refine x_callM (sp_isB (by assumption) (by walk_at "b_mem") (by walk_at "b_mem") (b_room0 (by omega)) (fun s₂ R₂ => ?_))
  walk_at "b_go"
  refine Raise_madeB PySem.F.excCall_TypeError PySem.F.excRaise_TypeError hh ?_
  walk_at "b_go"
  refine ⟨rfl, ?_⟩
  walk_at "b_go"
  refine ⟨by show 1 ≤ sizeLine; decide, fun h' e q => ?_⟩
  have R₄ := (rep_made (by assumption) q).sel (τ := (e, isExc0 (.type "TypeError")) :: (L, isNs [("self", some (.ref x)), ("second", some (.ref y)), ("res", none), ("i", none), ("tmp", none)]) :: σ) (by walk_at "b_sel")
  refine w_leaving0 R₄ (Around.frames_deeper hfr) (hF.push he.kind hf) (fun T s₅ hT R₅ => ?_)
  exact h e T s₅ hT (R₅.sel (by walk_at "b_sel"))
theorem sp_inter {x b f y b' f' dx dy : Addr} {m k m' k' w : Nat} {est' n n' salt salt' : Int} {ns ns' : List Int} {outer : List Env} {R' : Result → Shared → Prop} (R : Rep G σ s)
    (hX : Holds G σ x (obj 445 dx (cbf b f m k w n))) (hB : Holds G σ b (isInts ns)) (hY : Holds G σ y (obj 445 dy (cbf b' f' m' k' est' n'))) (hB' : Holds G σ b' (isInts ns')) (hdx : Holds G σ dx isAny) (hdy : Holds G σ dy isAny)
    (hf : IsHash G σ f salt) (hf' : IsHash G σ f' salt') (hP : G.prog = PySem.Challenge.pw_sv0017_05) (hg : 436 ∈ G.gtabs) (hg2 : 271 ∈ G.gtabs) (hgp : G.gensP = AllBare)
    (hroom : A.depth + 10 < recursionLimit) (hun : A.units + 200 < cLine) (hh : A.handled = none) (hfr : A.frames = some outer) (hF : FramesIn σ outer)
    (hm : m = ns.length) (hm' : m' = ns'.length) (hm0 : 0 < m) (hm1 : m ≤ 1000) (hk : hashNo m w = k) (hk0 : 0 < k) (hk1 : k ≤ 1000) (hk1' : k' ≤ 1000) (hw : 0 < w) (hw1 : w ≤ 1000)
    (h1 : ¬ (k = k' ∧ m = m' ∧ placesOf 116 salt k = placesOf 116 salt' k') → ∀ e T s', T ∉ G.ltabs → Rep G ((e, isExcT (.ref 90) T) :: (T, isTb) :: σ) s' → R' (.error (.ref e)) s')
    (h2 : (k = k' ∧ m = m' ∧ placesOf 116 salt k = placesOf 116 salt' k') → (∃ v ∈ commOf ns ns', U32 < v) → ∀ e T s', T ∉ G.ltabs → Rep G ((e, isExcT (.type "OverflowError") T) :: (T, isTb) :: σ) s' → R' (.error (.ref e)) s')
    (h3 : (k = k' ∧ m = m' ∧ placesOf 116 salt k = placesOf 116 salt' k') → (∀ v ∈ commOf ns ns', v ≤ U32) → ∀ r dr br q s', Rep G ((r, obj 445 dr (cbf br f m k w q)) :: (br, isInts (commOf ns ns')) :: (dr, isAny) :: σ) s' → R' (.ok (.ret (.ref r))) s') :
    codeAny (model G.prog G.w) A (.call (.ref 427) ⟨[.ref x, .ref y], []⟩) R' s := by
  refine c_K [("self", .ref x), ("second", .ref y)] [("self", some (.ref x)), ("second", some (.ref y)), ("res", none), ("i", none), ("tmp", none)] R (by omega) rfl (fun _ => BindsTo.of_eq rfl) (fun L s' env R he hf' hfn => ?_)
  have s2 : ∀ {o1 o2 o3 : Option Value}, Sub G σ ((fun (o1 o2 o3 : Option Value) => (L, isNs [("self", some (.ref x)), ("second", some (.ref y)), ("res", o1), ("i", o2), ("tmp", o3)])) o1 o2 o3 :: σ) := Sub.refl.cons
  walk_at "b_go"
  refine x_callM (sp_isC (by assumption) (by walk_at "b_mem") (b_room0 (by omega)) (fun s₂ R₂ => ?_))
  walk_at "b_go"
  refine x_callM (sp_similar (by assumption) (by walk_at "b_mem") (by walk_at "b_mem") (by walk_at "b_mem") (by walk_at "b_mem") (hf.mono s2) (IsHash.mono (by assumption) s2) (b_room (k := 4) (by omega)) (by rw [du]; omega) hh hk1 hk1' (fun s₃ R₃ => ?_))
  walk_at "b_go"
  have hF2 : ∀ {o1 o2 o3 : Option Value}, FramesIn ((fun (o1 o2 o3 : Option Value) => (L, isNs [("self", some (.ref x)), ("second", some (.ref y)), ("res", o1), ("i", o2), ("tmp", o3)])) o1 o2 o3 :: σ) (env :: outer) := hF.push he.kind ‹env.frame = some L›
  by_cases hs : k = k' ∧ m = m' ∧ placesOf 116 salt k = placesOf 116 salt' k'
  rotate_left
  · rw [if_pos (by simp [hs])]
    walk_at "b_go"
    refine x_RaiseU (C := 90) hh rfl (by kernel_rfl) ?_
    walk_at "b_go"
    refine x_callM (sp_simErr (by assumption) hP (b_room (k := 4) (by omega)) (fun e d s₄ R₄ => ⟨e, _, _, rfl, R₄, .head, ?_⟩))
    refine w_leaving0 (excU_0 R₄) (Around.frames_deeper hfr) hF2 (fun T s₅ hT R₅ => ?_)
    exact h1 hs e T s₅ hT (R₅.sel (by walk_at "b_sel"))
  rw [if_neg (fun q => by rw [decide_eq_true hs] at q; cases q)]
  walk_at "b_go"
  refine x_callK (sp_newK (by assumption) hP (b_room (k := 6) (by omega)) hh hw hw1 hm1 (by rw [hk]; omega) (fun r dr br s₄ R₄ => ?_))
  rw [hk] at R₄
  walk_at "b_go"
  refine w_iterRange (n := m) (by assumption) (by walk_at "b_mem") (by omega) (by omega) (by omega) (fun it s₅ hn R₅ => ?_)
  obtain ⟨hs1, hs2, hs3⟩ := hs
  have hml : (commOf ns ns').length = m := by rw [commOf_len (by omega)]; omega
  refine w_forLoop (Iter.range hn _ _ _) (fun i σ' => ∃ o2 o3 ms, ms = (commOf ns ns').take i ++ (List.replicate m (0 : Int)).drop i ∧ σ' = ((fun (o1 o2 o3 : Option Value) => (L, isNs [("self", some (.ref x)), ("second", some (.ref y)), ("res", o1), ("i", o2), ("tmp", o3)])) (some (.ref r)) o2 o3 :: (r, obj 445 dr (cbf br f m k w 0)) :: (br, isInts ms) :: (dr, isAny) :: σ)) hh (R₅.sel (by walk_at "b_sel")) ⟨none, none, List.replicate m 0, by simp, rfl⟩ (fun _ _ _ => trivial) ?_ ?_
  · rintro E' i σ' s₆ v hi ⟨t, rfl⟩ ⟨o2, o3, ms, hms, rfl⟩ R₆
    obtain ⟨a, ha⟩ : ∃ a, ns[i]? = some a := ⟨_, List.getElem?_eq_getElem (by omega)⟩
    obtain ⟨c, hc⟩ : ∃ c, ns'[i]? = some c := ⟨_, List.getElem?_eq_getElem (by omega)⟩
    have hti : (0 + (i : Int) * 1).toNat = i := by omega
    walk_at "b_go"
    refine w_itemI (n := a) (by assumption) (by walk_at "b_mem") (by omega) (by rw [hti]; exact ha) (by omega) (fun t1 => ?_)
    walk_at "b_go"
    refine ite_dec (fun ha0 => ?_) (fun ha0 => ?_)
    · walk_at "b_go"
      refine w_itemI (n := c) (by assumption) (by walk_at "b_mem") (by omega) (by rw [hti]; exact hc) (by omega) (fun t2 => ?_)
      walk_at "b_go"
      refine ite_dec (fun hc0 => ?_) (fun hc0 => ?_)
      · walk_at "b_go"
        refine w_itemI (n := a) (by assumption) (by walk_at "b_mem") (by omega) (by rw [hti]; exact ha) (by omega) (fun t3 => ?_)
        walk_at "b_go"
        refine w_itemI (n := c) (by assumption) (by walk_at "b_mem") (by omega) (by rw [hti]; exact hc) (by omega) (fun t4 => ?_)
        walk_at "b_go"
        refine w_setItemI (by assumption) (by walk_at "b_upd") (by omega) (by simp [hms]; omega) (by omega) (fun s₇ R₇ => ?_)
        walk_at "b_go"
        refine ⟨_, R₇, _, _, _, ?_, rfl⟩
        rw [hms, hti]
        exact take_step (by omega) (by simp; omega) (by rw [commOf_get ha hc, if_pos ⟨ha0, hc0⟩])
      · walk_at "b_go"
        refine ⟨_, by assumption, _, _, _, ?_, rfl⟩
        rw [hms]
        exact take_skip (by omega) (by simp; omega) (by rw [commOf_get ha hc, if_neg (fun q => hc0 q.2)]; simp [List.getElem?_replicate]; omega)
    · walk_at "b_go"
      refine ⟨_, by assumption, _, _, _, ?_, rfl⟩
      rw [hms]
      exact take_skip (by omega) (by simp; omega) (by rw [commOf_get ha hc, if_neg (fun q => ha0 q.1)]; simp [List.getElem?_replicate]; omega)
  · rintro σ' s₆ ⟨o2, o3, ms, hms, rfl⟩ R₆
    rw [List.drop_eq_nil_of_le (by simp), List.append_nil, List.take_of_length_le (by omega)] at hms
    subst hms
    walk_at "b_go"
    have hF3 : FramesIn ((fun (o1 o2 o3 : Option Value) => (L, isNs [("self", some (.ref x)), ("second", some (.ref y)), ("res", o1), ("i", o2), ("tmp", o3)])) (some (.ref r)) o2 o3 :: (r, obj 445 dr (cbf br f m k w 0)) :: (br, isInts (commOf ns ns')) :: (dr, isAny) :: σ) (env :: outer) := hF2.mono fun p hp => by
      rcases List.mem_cons.mp hp with rfl | hp
      · exact .head _
      · exact .tail _ (.tail _ (.tail _ (.tail _ hp)))
    refine x_callM (sp_estimate (m := m) (k := k) (ns := commOf ns ns') R₆ (by walk_at "b_mem") (by walk_at "b_mem") (by walk_at "b_mem") hg hg2 hgp (b_room (k := 5) (by omega)) hh (Around.frames_deeper hfr) hF3 (by omega) hm0 hm1 hk0 hk1 (fun hv e T s₇ hT R₇ => ?_) (fun hv q t s₇ R₇ => ?_))
    · refine w_leavingT (σ := (fun (o1 o2 o3 : Option Value) => (L, isNs [("self", some (.ref x)), ("second", some (.ref y)), ("res", o1), ("i", o2), ("tmp", o3)])) (some (.ref r)) o2 o3 :: (r, obj 445 dr (cbf br f m k w 0)) :: (br, isInts (commOf ns ns')) :: (dr, isAny) :: σ) R₇ hT (Around.frames_deeper hfr) hF3 (fun T' s₈ hT' R₈ => ?_)
      exact h2 ⟨hs1, hs2, hs3⟩ hv e T' s₈ hT' (R₈.sel (by walk_at "b_sel"))
    · walk_at "b_go"
      exact h3 ⟨hs1, hs2, hs3⟩ hv r dr br q _ (Rep.sel (by assumption) (by walk_at "b_sel"))
end
end Bl


namespace Bl
section
variable {G : Gd hd.heap_39} {A : Around} {E : Value → Shared → Prop} {σ τ : Led} {s : Shared} {env : Env}

theorem dropL {p : Addr × Cell} {l1 l2 : Led} (R : Rep G (l1 ++ p :: l2) s) : Rep G (l1 ++ l2) s := by
  refine R.sub (fun q hq => ?_) ?_
  · rcases List.mem_append.mp hq with hq | hq
    · exact List.mem_append_left _ hq
    · exact List.mem_append_right _ (.tail _ hq)
  · have h := R.nd
    exact h.sublist (List.Sublist.map _ (List.Sublist.append_left (List.sublist_cons_self _ _) _))
/-- what a deed may come to -/
structure Deed (G : Gd hd.heap_39) (A : Around) (σ : Led) (fd : Addr) (D : Value → Led → Prop) (DE : Value → Prop) : Prop where
  fn : ∃ c, Holds G σ fd c ∧ ∀ o, c o → isFn o
  run : ∀ {A' : Around} {p : Addr × Cell} {s : Shared} {outer : List Env} {R' : Result → Shared → Prop}, A'.depth = A.depth + 1 → A'.units = A.units + 3 → A'.handled = none → A'.frames = some outer → FramesIn (p :: σ) outer → Rep G (p :: σ) s →
    (∀ v σ1 s', D v σ1 → Rep G (σ1 ++ p :: σ) s' → R' (.ok (.ret v)) s') → (∀ c e T s', DE c → T ∉ G.ltabs → Rep G ((e, isExcT c T) :: (T, isTb) :: p :: σ) s' → R' (.error (.ref e)) s') → codeAny (model G.prog G.w) A' (.call (.ref fd) ⟨[], []⟩) R' s

theorem sp_try {fd : Addr} {D : Value → Led → Prop} {DE : Value → Prop} {outer : List Env} {R' : Result → Shared → Prop} (R : Rep G σ s) (hd : Deed G A σ fd D DE) (hDE : ∀ c, DE c → c = .ref 90 ∨ c = .type "TypeError" ∨ c = .type "OverflowError")
    (hroom : A.depth < recursionLimit) (hh : A.handled = none) (hfr : A.frames = some outer) (hF : FramesIn σ outer)
    (k1 : ∀ v σ1 l s', D v σ1 → Rep G ((l, isLst [v]) :: σ1 ++ σ) s' → R' (.ok (.ret (.ref l))) s')
    (k2 : DE (.ref 90) → ∀ l t s', Rep G ((l, isLst [.str (Str.ofString "unlike") t]) :: σ) s' → R' (.ok (.ret (.ref l))) s')
    (k3 : DE (.type "TypeError") → ∀ l t s', Rep G ((l, isLst [.str (Str.ofString "no filter") t]) :: σ) s' → R' (.ok (.ret (.ref l))) s')
    (k4 : DE (.type "OverflowError") → ∀ l t s', Rep G ((l, isLst [.str (Str.ofString "too great") t]) :: σ) s' → R' (.ok (.ret (.ref l))) s') :
    codeAny (model G.prog G.w) A (.call (.ref 481) ⟨[.ref fd], []⟩) R' s := by
  refine c_K [("deed", .ref fd)] [("deed", some (.ref fd))] R hroom rfl (fun _ => BindsTo.of_eq rfl) (fun L s' env R he hf hfn => ?_)
  refine wpAny_execs_cons ?_
  refine wpAny_Try_except ?_
  have hF2 : FramesIn ((L, isNs [("deed", some (.ref fd))]) :: σ) (env :: outer) := hF.push he.kind hf
  walk_at "b_go"
  refine w_List ?_
  walk_at "b_go"
  obtain ⟨c, hc1, hc2⟩ := hd.fn
  refine w_cwF0 ⟨?_, ?_⟩
  · obtain ⟨o, ho, hco⟩ := Rep.cellH R hc1.tail
    obtain ⟨fd', hfd'⟩ := hc2 o hco
    exact ⟨o, fd', ho, hfd'⟩
  refine x_callM (hd.run (p := (L, isNs [("deed", some (.ref fd))])) dd du hh (Around.frames_deeper hfr) hF2 (by assumption) (fun v σ1 s₂ hD R₂ => ?_) (fun c e T s₂ hE hT R₂ => ?_))
  · walk_at "b_go"
    refine ⟨by show 1 ≤ sizeLine; decide, _, R₂, fun l s₃ R₃ => ?_⟩
    exact k1 v σ1 l s₃ hD (dropL (l1 := (l, isLst [v]) :: σ1) R₃)
  · refine w_noteT R₂ hT (Around.frames_deeper hfr) hF2 (fun T' s₃ hT' R₃ => ?_)
    rcases hDE c hE with rfl | rfl | rfl
    · refine w_catchU (C := 90) R₃ rfl (by kernel_rfl) (fun q => gl_SimilarityError R₃ he q) (fun E' s₄ R₄ => ?_)
      walk_at "b_go"
      refine w_List ?_
      walk_at "b_go"
      refine ⟨by show 1 ≤ sizeLine; decide, _, by assumption, fun l s₅ R₅ => ?_⟩
      exact k2 hE l _ s₅ (R₅.sel (by walk_at "b_sel"))
    · refine w_missU (C := 90) R₃ rfl (by kernel_rfl) (by rw [isSubtype_type]; kernel_rfl) (fun q => gl_SimilarityError R₃ he q) ?_
      refine w_catchB (Y := "TypeError") R₃ PySem.F.isExc_TypeError PySem.F.notTuple_TypeError (by rw [isSubtype_type]; kernel_rfl) (fun q => bn_TypeError R₃ he q) (fun E' s₄ R₄ => ?_)
      walk_at "b_go"
      refine w_List ?_
      walk_at "b_go"
      refine ⟨by show 1 ≤ sizeLine; decide, _, by assumption, fun l s₅ R₅ => ?_⟩
      exact k3 hE l _ s₅ (R₅.sel (by walk_at "b_sel"))
    · refine w_missU (C := 90) R₃ rfl (by kernel_rfl) (by rw [isSubtype_type]; kernel_rfl) (fun q => gl_SimilarityError R₃ he q) ?_
      refine w_missB (Y := "TypeError") R₃ PySem.F.isExc_TypeError PySem.F.notTuple_TypeError (by rw [isSubtype_type]; kernel_rfl) (fun q => bn_TypeError R₃ he q) ?_
      refine w_catchB (Y := "OverflowError") R₃ PySem.F.isExc_OverflowError PySem.F.notTuple_OverflowError (by rw [isSubtype_type]; kernel_rfl) (fun q => bn_OverflowError R₃ he q) (fun E' s₄ R₄ => ?_)
      walk_at "b_go"
      refine w_List ?_
      walk_at "b_go"
      refine ⟨by show 1 ≤ sizeLine; decide, _, by assumption, fun l s₅ R₅ => ?_⟩
      exact k4 hE l _ s₅ (R₅.sel (by walk_at "b_sel"))
end
end Bl


namespace Bl
section
variable {G : Gd hd.heap_39} {A : Around} {E : Value → Shared → Prop} {σ τ : Led} {s : Shared} {env : Env}

theorem sp_joinedBig {l d : Addr} {t : Tok} {ds : List Int} {R' : Result → Shared → Prop} (R : Rep G σ s) (hl : Holds G σ l (isLst [.str (Str.ofString "too great") t])) (hd : Holds G σ d (isInts ds)) (hbig : ∃ v ∈ ds, U32 < v)
    (hroom : A.depth < recursionLimit) (hun : A.units + 100 < cLine) (hh : A.handled = none) (h : ∀ s', Rep G σ s' → R' (.ok (.ret (.bool true))) s') :
    codeAny (model G.prog G.w) A (.call (.ref 488) ⟨[.ref l, .ref d], []⟩) R' s := by
  have hne : ds ≠ [] := fun q => by subst q; obtain ⟨v, hv, _⟩ := hbig; cases hv
  refine c_K [("told", .ref l), ("due", .ref d)] [("told", some (.ref l)), ("due", some (.ref d))] R hroom rfl (fun _ => BindsTo.of_eq rfl) (fun L s' env R he hf hfn => ?_)
  walk_at "b_go"
  refine w_List ?_
  walk_at "b_go"
  refine ⟨by show 0 ≤ sizeLine; decide, _, by assumption, fun l₀ s₂ R₂ => ?_⟩
  replace R₂ := Rep.toInts R₂ .nil
  refine w_neI (l := d) (l' := l₀) R₂ (by walk_at "b_mem") (by walk_at "b_mem") (by rw [du]; omega) ?_
  rw [decide_eq_false hne]
  walk_at "b_go"
  refine w_maxL (l := d) hh (by assumption) (by walk_at "b_mem") hne (fun M t₂ s₃ hM R₃ => ?_)
  walk_at "b_go"
  refine ite_dec (fun hgt => ?_) (fun hle => ?_)
  rotate_left
  · exact absurd (hM.2 _ hbig.choose_spec.1) (by have := hbig.choose_spec.2; show ¬ _; unfold U32 at this; omega)
  walk_at "b_go"
  refine w_List ?_
  walk_at "b_go"
  refine ⟨by show 1 ≤ sizeLine; decide, _, by assumption, fun l₁ s₄ R₄ => ?_⟩
  refine w_eqS1 (l := l) (l' := l₁) R₄ (by walk_at "b_mem") (by walk_at "b_mem") (by rw [du]; omega) (by decide +kernel) ?_
  exact h _ (R₄.sel (by walk_at "b_sel"))
theorem sp_joinedOk {l d r br f dr : Addr} {m k est q : Int} {ds : List Int} {R' : Result → Shared → Prop} (R : Rep G σ s) (hl : Holds G σ l (isLst [.ref r])) (hX : Holds G σ r (obj 445 dr (cbf br f m k est q))) (hdr : Holds G σ dr isAny) (hB : Holds G σ br (isInts ds)) (hd : Holds G σ d (isInts ds))
    (hne : ds ≠ []) (hsm : ∀ v ∈ ds, v ≤ U32)
    (hroom : A.depth + 1 < recursionLimit) (hun : A.units + 100 < cLine) (hh : A.handled = none) (h : ∀ s', Rep G σ s' → R' (.ok (.ret (.bool true))) s') :
    codeAny (model G.prog G.w) A (.call (.ref 488) ⟨[.ref l, .ref d], []⟩) R' s := by
  refine c_K [("told", .ref l), ("due", .ref d)] [("told", some (.ref l)), ("due", some (.ref d))] R (by omega) rfl (fun _ => BindsTo.of_eq rfl) (fun L s' env R he hf hfn => ?_)
  walk_at "b_go"
  refine w_List ?_
  walk_at "b_go"
  refine ⟨by show 0 ≤ sizeLine; decide, _, by assumption, fun l₀ s₂ R₂ => ?_⟩
  replace R₂ := Rep.toInts R₂ .nil
  refine w_neI (l := d) (l' := l₀) R₂ (by walk_at "b_mem") (by walk_at "b_mem") (by rw [du]; omega) ?_
  rw [decide_eq_false hne]
  walk_at "b_go"
  refine w_maxL (l := d) hh (by assumption) (by walk_at "b_mem") hne (fun M t₂ s₃ hM R₃ => ?_)
  walk_at "b_go"
  refine ite_dec (fun hgt => ?_) (fun hle => ?_)
  · exact absurd (hsm _ hM.1) (by show ¬ _ ≤ U32; unfold U32; omega)
  walk_at "b_go"
  refine w_item (v := .ref r) (by assumption) (by walk_at "b_mem") (by decide) rfl (by decide) ?_
  walk_at "b_go"
  refine w_eqI (l := br) (l' := d) (by assumption) (by walk_at "b_mem") (by walk_at "b_mem") (by rw [du]; omega) ?_
  rw [decide_eq_true rfl]
  exact h _ (Rep.sel (by assumption) (by walk_at "b_sel"))
end
end Bl


namespace Bl
section
variable {G : Gd hd.heap_39} {A : Around} {E : Value → Shared → Prop} {σ τ : Led} {s : Shared} {env : Env}

/-- the law's statements -/
def lawS (K : Frag) : List Stmt := match K.lookup 493 with
  | some ⟨_, _, .func fd, _⟩ => (match fd.body with
    | .stmts b => b
    | _ => [])
  | _ => []
def lawSc (K : Frag) : Scope := match K.lookup 493 with
  | some ⟨_, _, .func fd, _⟩ => fd.scope
  | _ => { kind := .module, names := [], isGenerator := false, isCoroutine := false }
def nums (xs : List Int) : List Int := (xs.take 20).map (fun n => n.fmod 1000003) ++ [57, 9, 24, 198, 88]

def wOf (a0 : Int) : Nat := ((a0.fdiv 24).fmod 12 + 1).toNat
def mOf (a0 : Int) : Nat := (a0.fmod 24 + wOf a0 + 1).toNat
def tOf (a1 : Int) : Int := if (a1.fdiv 9).fmod 4 ≠ 0 then a1.fmod 9 else (a1.fdiv 36).fmod 9
def m1Of (a0 a1 : Int) : Nat := if (a1.fdiv 324).fmod 5 = 1 then mOf a0 + 1 else mOf a0
theorem wOf_eq (a0 : Int) : (a0.fdiv 24).fmod 12 + 1 = (wOf a0 : Int) := by have h1 := Int.fmod_nonneg_of_pos (a0.fdiv 24) (show (0 : Int) < 12 by decide); unfold wOf; omega
theorem mOf_eq (a0 : Int) : a0.fmod 24 + wOf a0 + 1 = (mOf a0 : Int) := by have h1 := Int.fmod_nonneg_of_pos a0 (show (0 : Int) < 24 by decide); unfold mOf; omega
theorem law_A {L pn fi su go pl rw' mu rs at' si sa wa sc : Addr} {xs nr : List Int} {a0 a1 : Int} {outer : List Env} {Q : Flow → Shared → Prop} (he : EnvIs env (lawSc G.K) L [("plain", pn), ("filters", fi), ("sums", su), ("gone", go), ("places", pl), ("row", rw'), ("much", mu), ("rows", rs), ("at", at'), ("sizes", si), ("salts", sa), ("wanted", wa)] (.ref 492)) (hf : env.frame = some L)
    (R : Rep G ((L, isNs [("script", some (.ref sc)), ("n", none), ("numbers", none), ("bits", none), ("rounds", none), ("added", none), ("deed", none), ("key", none), ("one", none), ("least", none), ("told", none), ("due", none), ("alike", none), ("both", none), ("common", none), ("shared", none)]) :: (pn, isCell (none)) :: (fi, isCell (none)) :: (su, isCell (none)) :: (go, isCell (none)) :: (pl, isCell (none)) :: (rw', isCell (none)) :: (mu, isCell (none)) :: (rs, isCell (none)) :: (at', isCell (none)) :: (si, isCell (none)) :: (sa, isCell (none)) :: (wa, isCell (none)) :: (469, isTab #[]) :: τ) s) (hS : Holds G τ sc (isInts xs)) (hxs : xs.length ≤ 1000) (hnx : nums xs = a0 :: a1 :: nr) (hroom : A.depth + 20 < recursionLimit) (hun : A.units + 1000 < cLine) (hh : A.handled = none) (hP : G.prog = PySem.Challenge.pw_sv0017_05) (k : ∀ sz sl nu t1 t2 s', Rep G ((sz, isInts [((mOf a0 : Nat) : Int), ((m1Of a0 a1 : Nat) : Int)]) :: (sl, isInts [a1.fmod 9, tOf a1]) :: (nu, isInts (a0 :: a1 :: nr)) :: (L, isNs [("script", some (.ref sc)), ("n", none), ("numbers", some (.ref nu)), ("bits", some (Value.int (mOf a0) t2)), ("rounds", none), ("added", none), ("deed", none), ("key", none), ("one", none), ("least", none), ("told", none), ("due", none), ("alike", none), ("both", none), ("common", none), ("shared", none)]) :: (pn, isCell (none)) :: (fi, isCell (none)) :: (su, isCell (none)) :: (go, isCell (none)) :: (pl, isCell (none)) :: (rw', isCell (none)) :: (mu, isCell (none)) :: (rs, isCell (none)) :: (at', isCell (none)) :: (si, isCell (some (.ref sz))) :: (sa, isCell (some (.ref sl))) :: (wa, isCell (some (Value.int (wOf a0) t1))) :: (469, isTab #[]) :: τ) s' → wpAny (model G.prog G.w) A (execs ((lawS G.K).drop 5) env) Q E s') :
    wpAny (model G.prog G.w) A (execs (lawS G.K) env) Q E s := by
  conv at he => arg 2; whnf
  refine wpAny_execs_cons ?_
  walk_at "b_go"
  refine w_ListComp (fun o => [(Str.ofString ".0", none), (Str.ofString "n", o)]) none hh he rfl ?_
  walk_at "b_go"
  refine w_SliceTo ?_
  walk_at "b_go"
  refine ⟨_, by assumption, fun i s₂ R₂ => ?_⟩
  refine w_cutTo (l := sc) (i := i) (ns := xs) R₂ (by walk_at "b_mem") (by walk_at "b_mem") (by decide) (by rw [sizeLine_eq]; omega) (fun l₁ s₃ R₃ => ?_)
  refine w_iterInts R₃ .head (fun it s₄ hn R₄ => ?_)
  refine ⟨it, _, _, _, _, _, fun i acc σ' => σ' = (l₁, isInts (xs.take (20 : Int).toNat)) :: (L, isNs [("script", some (.ref sc)), ("n", none), ("numbers", none), ("bits", none), ("rounds", none), ("added", none), ("deed", none), ("key", none), ("one", none), ("least", none), ("told", none), ("due", none), ("alike", none), ("both", none), ("common", none), ("shared", none)]) :: (pn, isCell (none)) :: (fi, isCell (none)) :: (su, isCell (none)) :: (go, isCell (none)) :: (pl, isCell (none)) :: (rw', isCell (none)) :: (mu, isCell (none)) :: (rs, isCell (none)) :: (at', isCell (none)) :: (si, isCell (none)) :: (sa, isCell (none)) :: (wa, isCell (none)) :: (469, isTab #[]) :: τ ∧ IntsAre acc (((xs.take 20).take i).map (fun n => n.fmod 1000003)), rfl, Iter.ints hn, R₄.sel (by walk_at "b_sel"), ⟨rfl, .nil⟩, fun _ _ σ' h => by rw [h.1]; exact .head, by rw [sizeLine_eq]; simp; omega, ?_, ?_⟩
  · rintro E' C D cenv a i acc σ' s₂ v' he' hi ⟨n, t', hn', rfl⟩ ⟨rfl, hacc⟩ R₂
    walk_at "b_go"
    refine w_mod (by assumption) (by decide) (fun _ _ _ => ?_)
    refine ⟨_, _, by assumption, rfl, ?_⟩
    rw [List.take_add_one, show (xs.take 20)[i]? = some n from hn', List.map_append]
    exact ints_snoc hacc _ _
  · rintro D acc σ' s₂ ⟨rfl, hacc⟩ R₂
    rw [List.take_of_length_le (by simp)] at hacc
    replace R₂ := R₂.toInts hacc
    walk_at "b_go"
    refine w_List ?_
    walk_at "b_go"
    refine ⟨by show 5 ≤ sizeLine; decide, _, by assumption, fun l₂ s₃ R₃ => ?_⟩
    replace R₃ := Rep.toInts R₃ (.cons 57 _ (.cons 9 _ (.cons 24 _ (.cons 198 _ (.cons 88 _ .nil)))))
    refine w_addL (l := D) (b := l₂) R₃ (by walk_at "b_mem") (by walk_at "b_mem") (by rw [sizeLine_eq]; simp; omega) (fun nu s₄ R₄ => ?_)
    replace R₄ : Rep G ((nu, isInts (nums xs)) :: (L, isNs [("script", some (.ref sc)), ("n", none), ("numbers", none), ("bits", none), ("rounds", none), ("added", none), ("deed", none), ("key", none), ("one", none), ("least", none), ("told", none), ("due", none), ("alike", none), ("both", none), ("common", none), ("shared", none)]) :: (pn, isCell (none)) :: (fi, isCell (none)) :: (su, isCell (none)) :: (go, isCell (none)) :: (pl, isCell (none)) :: (rw', isCell (none)) :: (mu, isCell (none)) :: (rs, isCell (none)) :: (at', isCell (none)) :: (si, isCell (none)) :: (sa, isCell (none)) :: (wa, isCell (none)) :: (469, isTab #[]) :: τ) s₄ := Rep.sel R₄ (by walk_at "b_sel")
    rw [hnx] at R₄
    walk_at "b_go"
    refine w_itemI (n := a0) (by assumption) (by walk_at "b_mem") (by decide) rfl (by decide) (fun _ => ?_)
    walk_at "b_go"
    refine w_fdiv (by assumption) (by decide) (log_small (k := 10) (by decide) (by decide) (by decide)) (fun _ _ _ => ?_)
    walk_at "b_go"
    refine w_mod (by assumption) (by decide) (fun _ _ _ => ?_)
    walk_at "b_st"
    walk_at "b_st"
    rw [wOf_eq]
    walk_at "b_go"
    refine w_itemI (n := a0) (by assumption) (by walk_at "b_mem") (by decide) rfl (by decide) (fun _ => ?_)
    walk_at "b_go"
    refine w_mod (by assumption) (by decide) (fun _ _ _ => ?_)
    iterate 4 walk_at "b_st"
    rw [mOf_eq]
    walk_at "b_go"
    refine w_List ?_
    walk_at "b_go"
    refine w_itemI (n := a1) (by assumption) (by walk_at "b_mem") (by decide) rfl (by decide) (fun _ => ?_)
    walk_at "b_go"
    refine w_mod (by assumption) (by decide) (fun t₄ s₅ R₅ => ?_)
    walk_at "b_st"
    refine wpAny_mono (Q := fun v s' => ∃ t, v = .int (tOf a1) t ∧ ∃ t1 t2, Rep G ((nu, isInts (a0 :: a1 :: nr)) :: (L, isNs [("script", some (.ref sc)), ("n", none), ("numbers", some (.ref nu)), ("bits", some (Value.int (mOf a0) t2)), ("rounds", none), ("added", none), ("deed", none), ("key", none), ("one", none), ("least", none), ("told", none), ("due", none), ("alike", none), ("both", none), ("common", none), ("shared", none)]) :: (pn, isCell (none)) :: (fi, isCell (none)) :: (su, isCell (none)) :: (go, isCell (none)) :: (pl, isCell (none)) :: (rw', isCell (none)) :: (mu, isCell (none)) :: (rs, isCell (none)) :: (at', isCell (none)) :: (si, isCell (none)) :: (sa, isCell (none)) :: (wa, isCell (some (Value.int (wOf a0) t1))) :: (469, isTab #[]) :: τ) s') ?_ ?_ (fun _ _ x => x)
    · walk_at "b_go"
      refine w_itemI (n := a1) (by assumption) (by walk_at "b_mem") (by decide) rfl (by decide) (fun _ => ?_)
      walk_at "b_go"
      refine w_fdiv (by assumption) (by decide) (log_small (k := 10) (by decide) (by decide) (by decide)) (fun _ _ _ => ?_)
      walk_at "b_go"
      refine w_mod (by assumption) (by decide) (fun _ _ _ => ?_)
      walk_at "b_go"
      by_cases hq : (a1.fdiv 9).fmod 4 = 0
      · rw [if_neg (by simp [hq])]
        walk_at "b_go"
        refine w_itemI (n := a1) (by assumption) (by walk_at "b_mem") (by decide) rfl (by decide) (fun _ => ?_)
        walk_at "b_go"
        refine w_fdiv (by assumption) (by decide) (log_small (k := 10) (by decide) (by decide) (by decide)) (fun _ _ _ => ?_)
        walk_at "b_go"
        refine w_mod (by assumption) (by decide) (fun _ _ _ => ?_)
        exact ⟨_, by rw [tOf, if_neg (fun q => q hq)], _, _, by assumption⟩
      · rw [if_pos (by simp [hq])]
        walk_at "b_go"
        refine w_itemI (n := a1) (by assumption) (by walk_at "b_mem") (by decide) rfl (by decide) (fun _ => ?_)
        walk_at "b_go"
        refine w_mod (by assumption) (by decide) (fun _ _ _ => ?_)
        exact ⟨_, by rw [tOf, if_pos hq], _, _, by assumption⟩
    rintro v s₆ ⟨t₆, rfl, tw, tb, R₆⟩
    walk_at "b_go"
    refine ⟨by show 2 ≤ sizeLine; decide, _, by assumption, fun sl s₇ R₇ => ?_⟩
    replace R₇ := Rep.toInts R₇ (.cons (a1.fmod 9) _ (.cons (tOf a1) _ .nil))
    walk_at "b_go"
    refine w_List ?_
    iterate 3 walk_at "b_st"
    refine wpAny_mono (Q := fun v s' => ∃ t, v = .int (m1Of a0 a1) t ∧ ∃ t1 t2, Rep G ((sl, isInts [a1.fmod 9, tOf a1]) :: (nu, isInts (a0 :: a1 :: nr)) :: (L, isNs [("script", some (.ref sc)), ("n", none), ("numbers", some (.ref nu)), ("bits", some (Value.int (mOf a0) t2)), ("rounds", none), ("added", none), ("deed", none), ("key", none), ("one", none), ("least", none), ("told", none), ("due", none), ("alike", none), ("both", none), ("common", none), ("shared", none)]) :: (pn, isCell (none)) :: (fi, isCell (none)) :: (su, isCell (none)) :: (go, isCell (none)) :: (pl, isCell (none)) :: (rw', isCell (none)) :: (mu, isCell (none)) :: (rs, isCell (none)) :: (at', isCell (none)) :: (si, isCell (none)) :: (sa, isCell (some (.ref sl))) :: (wa, isCell (some (Value.int (wOf a0) t1))) :: (469, isTab #[]) :: τ) s') ?_ ?_ (fun _ _ x => x)
    · walk_at "b_go"
      refine w_itemI (n := a1) (by assumption) (by walk_at "b_mem") (by decide) rfl (by decide) (fun _ => ?_)
      walk_at "b_go"
      refine w_fdiv (by assumption) (by decide) (log_small (k := 10) (by decide) (by decide) (by decide)) (fun _ _ _ => ?_)
      walk_at "b_go"
      refine w_mod (by assumption) (by decide) (fun _ _ _ => ?_)
      walk_at "b_go"
      refine ite_beq (fun hq => ?_) (fun hq => ?_)
      · walk_at "b_go"
        exact ⟨_, by rw [m1Of, if_pos hq]; rfl, _, _, by assumption⟩
      · walk_at "b_go"
        exact ⟨_, by rw [m1Of, if_neg hq], _, _, by assumption⟩
    rintro v s₈ ⟨t₈, rfl, tw, tb, R₈⟩
    walk_at "b_go"
    refine ⟨by show 2 ≤ sizeLine; decide, _, by assumption, fun sz s₉ R₉ => ?_⟩
    replace R₉ := Rep.toInts R₉ (.cons ((mOf a0 : Nat) : Int) _ (.cons ((m1Of a0 a1 : Nat) : Int) _ .nil))
    walk_at "b_st"
    exact k _ _ _ _ _ _ (Rep.sel (by assumption) (by walk_at "b_sel"))
end
end Bl


namespace Bl
section
variable {G : Gd hd.heap_39} {A : Around} {E : Value → Shared → Prop} {σ τ : Led} {s : Shared} {env : Env}

theorem sub3 {a1 a2 a3 : Addr} {c1 c2 c3 : Cell} (h1 : Holds G σ a1 c1) (h2 : Holds G σ a2 c2) (h3 : Holds G σ a3 c3) : Sub G [(a1, c1), (a2, c2), (a3, c3)] σ := fun a c h => by
  rcases h with h | h
  · rcases List.mem_cons.mp h with h | h
    · cases h; exact h1
    rcases List.mem_cons.mp h with h | h
    · cases h; exact h2
    rcases List.mem_cons.mp h with h | h
    · cases h; exact h3
    · cases h
  · exact .inr h
/-- what stays all through the law's loop -/
structure LawK (G : Gd hd.heap_39) (ρ : Led) (d0 d1 rd sz sl nu f0 f1 : Addr) (m0 m1 k0 k1 : Nat) (s0 s1 : Int) (nl : List Int) : Prop where
  d0 : Holds G ρ d0 isAny
  d1 : Holds G ρ d1 isAny
  rd : Holds G ρ rd (isInts [(k0 : Int), (k1 : Int)])
  sz : Holds G ρ sz (isInts [(m0 : Int), (m1 : Int)])
  sl : Holds G ρ sl (isInts [s0, s1])
  nu : Holds G ρ nu (isInts nl)
  h0 : IsHash G ρ f0 s0
  h1 : IsHash G ρ f1 s1
  tab : ∃ p, Holds G ρ 469 (isTab p)

theorem law_A2 {L pn fi su go pl rw' mu rs at' si sa wa sc nu sz sl : Addr} {t1 t2 : Tok} {nl : List Int} {m0 m1 w k0 k1 : Nat} {s0 s1 : Int} {Q : Flow → Shared → Prop} (he : EnvIs env (lawSc G.K) L [("plain", pn), ("filters", fi), ("sums", su), ("gone", go), ("places", pl), ("row", rw'), ("much", mu), ("rows", rs), ("at", at'), ("sizes", si), ("salts", sa), ("wanted", wa)] (.ref 492))
    (R : Rep G ((sz, isInts [(m0 : Int), (m1 : Int)]) :: (sl, isInts [s0, s1]) :: (nu, isInts nl) :: (L, isNs [("script", some (.ref sc)), ("n", none), ("numbers", some (.ref nu)), ("bits", some (Value.int m0 t2)), ("rounds", none), ("added", none), ("deed", none), ("key", none), ("one", none), ("least", none), ("told", none), ("due", none), ("alike", none), ("both", none), ("common", none), ("shared", none)]) :: (pn, isCell (none)) :: (fi, isCell (none)) :: (su, isCell (none)) :: (go, isCell (none)) :: (pl, isCell (none)) :: (rw', isCell (none)) :: (mu, isCell (none)) :: (rs, isCell (none)) :: (at', isCell (none)) :: (si, isCell (some (.ref sz))) :: (sa, isCell (some (.ref sl))) :: (wa, isCell (some (Value.int w t1))) :: (469, isTab #[]) :: (490, isTab #[]) :: τ) s) (hroom : A.depth + 20 < recursionLimit) (hun : A.units + 1000 < cLine) (hh : A.handled = none) (hP : G.prog = PySem.Challenge.pw_sv0017_05) (hl : G.ltabs = [469, 490])
    (hw : 0 < w) (hw1 : w ≤ 1000) (hm0 : m0 ≤ 1000) (hm1 : m1 ≤ 1000) (hk0 : roundsOf m0 w = k0) (hk1 : roundsOf m1 w = k1) (hh0 : hashNo m0 w = k0) (hh1 : hashNo m1 w = k1) (hp0 : 0 < k0) (hp1 : 0 < k1)
    (k : ∀ (x0 d0 b0 f0 x1 d1 b1 f1 fl r0 r1 rl ad rd : Addr) (ρ : Led) s', LawK G ρ d0 d1 rd sz sl nu f0 f1 m0 m1 k0 k1 s0 s1 nl → Rep G ((L, isNs [("script", some (.ref sc)), ("n", none), ("numbers", some (.ref nu)), ("bits", some (Value.int m0 t2)), ("rounds", some (.ref rd)), ("added", some (.ref ad)), ("deed", none), ("key", none), ("one", none), ("least", none), ("told", none), ("due", none), ("alike", none), ("both", none), ("common", none), ("shared", none)]) :: (pn, isCell (none)) :: (fi, isCell (some (.ref fl))) :: (su, isCell (none)) :: (go, isCell (none)) :: (pl, isCell (none)) :: (rw', isCell (none)) :: (mu, isCell (none)) :: (rs, isCell (some (.ref rl))) :: (at', isCell (none)) :: (si, isCell (some (.ref sz))) :: (sa, isCell (some (.ref sl))) :: (wa, isCell (some (Value.int w t1))) :: (x0, obj 445 d0 (cbf b0 f0 m0 k0 w 0)) :: (b0, isInts (List.replicate m0 0)) :: (r0, isInts (List.replicate m0 0)) :: (x1, obj 445 d1 (cbf b1 f1 m1 k1 w 0)) :: (b1, isInts (List.replicate m1 0)) :: (r1, isInts (List.replicate m1 0)) :: (fl, isLst [.ref x0, .ref x1]) :: (rl, isLst [.ref r0, .ref r1]) :: (ad, isInts [0, 0]) :: (490, isTab #[]) :: ρ) s' → wpAny (model G.prog G.w) A (execs ((lawS G.K).drop 9) env) Q E s') :
    wpAny (model G.prog G.w) A (execs ((lawS G.K).drop 5) env) Q E s := by
  conv at he => arg 2; whnf
  refine wpAny_execs_cons ?_
  refine w_AssignComp (fun o => [(Str.ofString ".0", none), (Str.ofString "size", o)]) none hh he rfl ?_
  walk_at "b_go"
  refine w_iterInts (by assumption) (by walk_at "b_mem") (fun it s₁ hn R₁ => ?_)
  refine ⟨it, _, _, _, _, _, fun i acc σ' => σ' = (sz, isInts [(m0 : Int), (m1 : Int)]) :: (sl, isInts [s0, s1]) :: (nu, isInts nl) :: (L, isNs [("script", some (.ref sc)), ("n", none), ("numbers", some (.ref nu)), ("bits", some (Value.int m0 t2)), ("rounds", none), ("added", none), ("deed", none), ("key", none), ("one", none), ("least", none), ("told", none), ("due", none), ("alike", none), ("both", none), ("common", none), ("shared", none)]) :: (pn, isCell (none)) :: (fi, isCell (none)) :: (su, isCell (none)) :: (go, isCell (none)) :: (pl, isCell (none)) :: (rw', isCell (none)) :: (mu, isCell (none)) :: (rs, isCell (none)) :: (at', isCell (none)) :: (si, isCell (some (.ref sz))) :: (sa, isCell (some (.ref sl))) :: (wa, isCell (some (Value.int w t1))) :: (469, isTab #[]) :: (490, isTab #[]) :: τ ∧ IntsAre acc (([k0, k1].take i).map fun (j : Nat) => (j : Int)), rfl, Iter.ints hn, R₁, ⟨rfl, .nil⟩, fun _ _ _ q => (by rw [q.1]; walk_at "b_mem"), by rw [sizeLine_eq]; simp, ?_, ?_⟩
  · rintro E' C D' cenv o i acc σ' s₂ v' he' hi ⟨n, t', hn', rfl⟩ ⟨rfl, hacc⟩ R₂
    obtain ⟨mm, kk, e1, e2, e3, e4⟩ : ∃ mm kk : Nat, n = (mm : Int) ∧ mm ≤ 1000 ∧ roundsOf mm w = kk ∧ [k0, k1][i]? = some kk := by
      match i, hi with
      | 0, _ => exact ⟨m0, k0, by simpa using hn'.symm, hm0, hk0, rfl⟩
      | 1, _ => exact ⟨m1, k1, by simpa using hn'.symm, hm1, hk1, rfl⟩
    subst e1
    walk_at "b_go"
    refine x_callM (sp_rounds (by assumption) (by omega) hw hw1 e2 (fun t₃ s₃ R₃ => ?_))
    refine ⟨_, _, by assumption, rfl, ?_⟩
    rw [List.take_add_one, e4, List.map_append, e3]
    exact ints_snoc hacc _ _
  · rintro rd acc σ' s₂ ⟨rfl, hacc⟩ R₂
    refine ⟨_, _, (sz, isInts [(m0 : Int), (m1 : Int)]) :: (sl, isInts [s0, s1]) :: (nu, isInts nl) :: (L, isNs [("script", some (.ref sc)), ("n", none), ("numbers", some (.ref nu)), ("bits", some (Value.int m0 t2)), ("rounds", some (.ref rd)), ("added", none), ("deed", none), ("key", none), ("one", none), ("least", none), ("told", none), ("due", none), ("alike", none), ("both", none), ("common", none), ("shared", none)]) :: (pn, isCell (none)) :: (fi, isCell (none)) :: (su, isCell (none)) :: (go, isCell (none)) :: (pl, isCell (none)) :: (rw', isCell (none)) :: (mu, isCell (none)) :: (rs, isCell (none)) :: (at', isCell (none)) :: (si, isCell (some (.ref sz))) :: (sa, isCell (some (.ref sl))) :: (wa, isCell (some (Value.int w t1))) :: (469, isTab #[]) :: (490, isTab #[]) :: τ, by walk_at "b_upd", by walk_at "b_put", fun s₃ R₃ => ?_⟩
    replace R₃ := R₃.toInts hacc
    replace R₃ : Rep G ((rd, isInts [(k0 : Int), (k1 : Int)]) :: (sz, isInts [(m0 : Int), (m1 : Int)]) :: (sl, isInts [s0, s1]) :: (nu, isInts nl) :: (L, isNs [("script", some (.ref sc)), ("n", none), ("numbers", some (.ref nu)), ("bits", some (Value.int m0 t2)), ("rounds", some (.ref rd)), ("added", none), ("deed", none), ("key", none), ("one", none), ("least", none), ("told", none), ("due", none), ("alike", none), ("both", none), ("common", none), ("shared", none)]) :: (pn, isCell (none)) :: (fi, isCell (none)) :: (su, isCell (none)) :: (go, isCell (none)) :: (pl, isCell (none)) :: (rw', isCell (none)) :: (mu, isCell (none)) :: (rs, isCell (none)) :: (at', isCell (none)) :: (si, isCell (some (.ref sz))) :: (sa, isCell (some (.ref sl))) :: (wa, isCell (some (Value.int w t1))) :: (469, isTab #[]) :: (490, isTab #[]) :: τ) s₃ := R₃
    clear R₂ R₁ R
    walk_at "b_go"
    refine x_AssignCellComp he ?_
    refine w_ListComp (fun o => [(Str.ofString ".0", none), (Str.ofString "at", o)]) none hh he rfl ?_
    walk_at "b_go"
    refine w_iterRange (n := 2) (by assumption) (by walk_at "b_mem") (by decide) (by decide) (by decide) (fun it s₁ hn R₁ => ?_)
    refine ⟨it, _, 2, _, _, _, fun i acc σ' => match i with
        | 0 => acc = [] ∧ σ' = (rd, isInts [(k0 : Int), (k1 : Int)]) :: (sz, isInts [(m0 : Int), (m1 : Int)]) :: (sl, isInts [s0, s1]) :: (nu, isInts nl) :: (L, isNs [("script", some (.ref sc)), ("n", none), ("numbers", some (.ref nu)), ("bits", some (Value.int m0 t2)), ("rounds", some (.ref rd)), ("added", none), ("deed", none), ("key", none), ("one", none), ("least", none), ("told", none), ("due", none), ("alike", none), ("both", none), ("common", none), ("shared", none)]) :: (pn, isCell (none)) :: (fi, isCell (none)) :: (su, isCell (none)) :: (go, isCell (none)) :: (pl, isCell (none)) :: (rw', isCell (none)) :: (mu, isCell (none)) :: (rs, isCell (none)) :: (at', isCell (none)) :: (si, isCell (some (.ref sz))) :: (sa, isCell (some (.ref sl))) :: (wa, isCell (some (Value.int w t1))) :: (469, isTab #[]) :: (490, isTab #[]) :: τ
        | 1 => ∃ x0 d0 b0 f0 cf0 c' cs0 ts0, acc = [.ref x0] ∧ IsHash G [(f0, cf0), (c', isCodeR hq), (cs0, isCell (some (.int s0 ts0)))] f0 s0 ∧ σ' = (x0, obj 445 d0 (cbf b0 f0 m0 k0 w 0)) :: (b0, isInts (List.replicate m0 0)) :: (d0, isAny) :: (f0, cf0) :: (c', isCodeR hq) :: (cs0, isCell (some (.int s0 ts0))) :: (469, isTab #[rawInt hpos.line, rawInt hpos.col, .ref c']) :: (rd, isInts [(k0 : Int), (k1 : Int)]) :: (sz, isInts [(m0 : Int), (m1 : Int)]) :: (sl, isInts [s0, s1]) :: (nu, isInts nl) :: (L, isNs [("script", some (.ref sc)), ("n", none), ("numbers", some (.ref nu)), ("bits", some (Value.int m0 t2)), ("rounds", some (.ref rd)), ("added", none), ("deed", none), ("key", none), ("one", none), ("least", none), ("told", none), ("due", none), ("alike", none), ("both", none), ("common", none), ("shared", none)]) :: (pn, isCell (none)) :: (fi, isCell (none)) :: (su, isCell (none)) :: (go, isCell (none)) :: (pl, isCell (none)) :: (rw', isCell (none)) :: (mu, isCell (none)) :: (rs, isCell (none)) :: (at', isCell (none)) :: (si, isCell (some (.ref sz))) :: (sa, isCell (some (.ref sl))) :: (wa, isCell (some (Value.int w t1))) :: (490, isTab #[]) :: τ
        | _ => ∃ x0 d0 b0 f0 cf0 c' cs0 ts0 x1 d1 b1 f1 cf1 cs1 ts1, acc = [.ref x0, .ref x1] ∧ IsHash G [(f0, cf0), (c', isCodeR hq), (cs0, isCell (some (.int s0 ts0)))] f0 s0 ∧ IsHash G [(f1, cf1), (c', isCodeR hq), (cs1, isCell (some (.int s1 ts1)))] f1 s1 ∧ σ' = (x1, obj 445 d1 (cbf b1 f1 m1 k1 w 0)) :: (b1, isInts (List.replicate m1 0)) :: (d1, isAny) :: (f1, cf1) :: (cs1, isCell (some (.int s1 ts1))) :: (x0, obj 445 d0 (cbf b0 f0 m0 k0 w 0)) :: (b0, isInts (List.replicate m0 0)) :: (d0, isAny) :: (f0, cf0) :: (c', isCodeR hq) :: (cs0, isCell (some (.int s0 ts0))) :: (469, isTab #[rawInt hpos.line, rawInt hpos.col, .ref c']) :: (rd, isInts [(k0 : Int), (k1 : Int)]) :: (sz, isInts [(m0 : Int), (m1 : Int)]) :: (sl, isInts [s0, s1]) :: (nu, isInts nl) :: (L, isNs [("script", some (.ref sc)), ("n", none), ("numbers", some (.ref nu)), ("bits", some (Value.int m0 t2)), ("rounds", some (.ref rd)), ("added", none), ("deed", none), ("key", none), ("one", none), ("least", none), ("told", none), ("due", none), ("alike", none), ("both", none), ("common", none), ("shared", none)]) :: (pn, isCell (none)) :: (fi, isCell (none)) :: (su, isCell (none)) :: (go, isCell (none)) :: (pl, isCell (none)) :: (rw', isCell (none)) :: (mu, isCell (none)) :: (rs, isCell (none)) :: (at', isCell (none)) :: (si, isCell (some (.ref sz))) :: (sa, isCell (some (.ref sl))) :: (wa, isCell (some (Value.int w t1))) :: (490, isTab #[]) :: τ,
      rfl, Iter.range hn _ _ _, R₁.sel (by walk_at "b_sel"), ⟨rfl, rfl⟩, fun _ _ _ _ => trivial, by rw [sizeLine_eq]; decide, ?_, ?_⟩
    · rintro E' C D' cenv o i acc σ' s₂ v' he' hi ⟨t', rfl⟩ hJ R₂
      have hi2 : i = 0 ∨ i = 1 := by omega
      rcases hi2 with rfl | rfl
      · obtain ⟨rfl, rfl⟩ := hJ
        walk_at "b_go"
        refine w_itemI (n := (m0 : Int)) (by assumption) (by walk_at "b_mem") (by omega) rfl (by omega) (fun _ => ?_)
        walk_at "b_go"
        refine w_itemI (n := s0) (by assumption) (by walk_at "b_mem") (by omega) rfl (by omega) (fun ts0 => ?_)
        walk_at "b_go"
        refine x_callM (sp_hash1 (Rep.sel (by assumption) (by walk_at "b_sel")) hl (by omega) (fun f0 c' cs0 cf0 s₃ R₃ hH0 => ?_))
        walk_at "b_go"
        refine x_callK (sp_new (by assumption) hP (by omega) hh hw hw1 hm0 (by rw [hh0]; omega) (fun x0 d0 b0 s₄ R₄ => ?_))
        rw [hh0] at R₄
        refine ⟨_, (x0, obj 445 d0 (cbf b0 f0 m0 k0 w 0)) :: (b0, isInts (List.replicate m0 0)) :: (d0, isAny) :: (f0, cf0) :: (c', isCodeR hq) :: (cs0, isCell (some (.int s0 ts0))) :: (469, isTab #[rawInt hpos.line, rawInt hpos.col, .ref c']) :: (rd, isInts [(k0 : Int), (k1 : Int)]) :: (sz, isInts [(m0 : Int), (m1 : Int)]) :: (sl, isInts [s0, s1]) :: (nu, isInts nl) :: (L, isNs [("script", some (.ref sc)), ("n", none), ("numbers", some (.ref nu)), ("bits", some (Value.int m0 t2)), ("rounds", some (.ref rd)), ("added", none), ("deed", none), ("key", none), ("one", none), ("least", none), ("told", none), ("due", none), ("alike", none), ("both", none), ("common", none), ("shared", none)]) :: (pn, isCell (none)) :: (fi, isCell (none)) :: (su, isCell (none)) :: (go, isCell (none)) :: (pl, isCell (none)) :: (rw', isCell (none)) :: (mu, isCell (none)) :: (rs, isCell (none)) :: (at', isCell (none)) :: (si, isCell (some (.ref sz))) :: (sa, isCell (some (.ref sl))) :: (wa, isCell (some (Value.int w t1))) :: (490, isTab #[]) :: τ, R₄.sel (by walk_at "b_sel"), x0, d0, b0, f0, cf0, c', cs0, ts0, rfl, hH0, rfl⟩
      · obtain ⟨x0, d0, b0, f0, cf0, c', cs0, ts0, rfl, hH0, rfl⟩ := hJ
        walk_at "b_go"
        refine w_itemI (n := (m1 : Int)) (by assumption) (by walk_at "b_mem") (by omega) rfl (by omega) (fun _ => ?_)
        walk_at "b_go"
        refine w_itemI (n := s1) (by assumption) (by walk_at "b_mem") (by omega) rfl (by omega) (fun ts1 => ?_)
        walk_at "b_go"
        refine x_callM (sp_hash2 (Rep.sel (by assumption) (by walk_at "b_sel")) hl (by omega) (fun f1 cs1 cf1 s₃ R₃ hH1 => ?_))
        walk_at "b_go"
        refine x_callK (sp_new (by assumption) hP (by omega) hh hw hw1 hm1 (by rw [hh1]; omega) (fun x1 d1 b1 s₄ R₄ => ?_))
        rw [hh1] at R₄
        refine ⟨_, (x1, obj 445 d1 (cbf b1 f1 m1 k1 w 0)) :: (b1, isInts (List.replicate m1 0)) :: (d1, isAny) :: (f1, cf1) :: (cs1, isCell (some (.int s1 ts1))) :: (x0, obj 445 d0 (cbf b0 f0 m0 k0 w 0)) :: (b0, isInts (List.replicate m0 0)) :: (d0, isAny) :: (f0, cf0) :: (c', isCodeR hq) :: (cs0, isCell (some (.int s0 ts0))) :: (469, isTab #[rawInt hpos.line, rawInt hpos.col, .ref c']) :: (rd, isInts [(k0 : Int), (k1 : Int)]) :: (sz, isInts [(m0 : Int), (m1 : Int)]) :: (sl, isInts [s0, s1]) :: (nu, isInts nl) :: (L, isNs [("script", some (.ref sc)), ("n", none), ("numbers", some (.ref nu)), ("bits", some (Value.int m0 t2)), ("rounds", some (.ref rd)), ("added", none), ("deed", none), ("key", none), ("one", none), ("least", none), ("told", none), ("due", none), ("alike", none), ("both", none), ("common", none), ("shared", none)]) :: (pn, isCell (none)) :: (fi, isCell (none)) :: (su, isCell (none)) :: (go, isCell (none)) :: (pl, isCell (none)) :: (rw', isCell (none)) :: (mu, isCell (none)) :: (rs, isCell (none)) :: (at', isCell (none)) :: (si, isCell (some (.ref sz))) :: (sa, isCell (some (.ref sl))) :: (wa, isCell (some (Value.int w t1))) :: (490, isTab #[]) :: τ, R₄.sel (by walk_at "b_sel"), x0, d0, b0, f0, cf0, c', cs0, ts0, x1, d1, b1, f1, cf1, cs1, ts1, rfl, hH0, hH1, rfl⟩
    · rintro fl acc σ' s₂ ⟨x0, d0, b0, f0, cf0, c', cs0, ts0, x1, d1, b1, f1, cf1, cs1, ts1, rfl, hH0, hH1, rfl⟩ R₂
      walk_at "b_go"
      refine x_AssignCellComp he ?_
      refine w_ListComp (fun o => [(Str.ofString ".0", none), (Str.ofString "size", o)]) none hh he rfl ?_
      walk_at "b_go"
      refine w_iterInts (by assumption) (by walk_at "b_mem") (fun it s₁ hn R₁ => ?_)
      refine ⟨it, _, 2, _, _, _, fun i acc σ' => ∃ rr, acc = rr ∧ (i = 0 ∧ rr = [] ∧ σ' = (x1, obj 445 d1 (cbf b1 f1 m1 k1 w 0)) :: (b1, isInts (List.replicate m1 0)) :: (d1, isAny) :: (f1, cf1) :: (cs1, isCell (some (.int s1 ts1))) :: (x0, obj 445 d0 (cbf b0 f0 m0 k0 w 0)) :: (b0, isInts (List.replicate m0 0)) :: (d0, isAny) :: (f0, cf0) :: (c', isCodeR hq) :: (cs0, isCell (some (.int s0 ts0))) :: (fl, isLst [.ref x0, .ref x1]) :: (469, isTab #[rawInt hpos.line, rawInt hpos.col, .ref c']) :: (rd, isInts [(k0 : Int), (k1 : Int)]) :: (sz, isInts [(m0 : Int), (m1 : Int)]) :: (sl, isInts [s0, s1]) :: (nu, isInts nl) :: (L, isNs [("script", some (.ref sc)), ("n", none), ("numbers", some (.ref nu)), ("bits", some (Value.int m0 t2)), ("rounds", some (.ref rd)), ("added", none), ("deed", none), ("key", none), ("one", none), ("least", none), ("told", none), ("due", none), ("alike", none), ("both", none), ("common", none), ("shared", none)]) :: (pn, isCell (none)) :: (fi, isCell (some (.ref fl))) :: (su, isCell (none)) :: (go, isCell (none)) :: (pl, isCell (none)) :: (rw', isCell (none)) :: (mu, isCell (none)) :: (rs, isCell (none)) :: (at', isCell (none)) :: (si, isCell (some (.ref sz))) :: (sa, isCell (some (.ref sl))) :: (wa, isCell (some (Value.int w t1))) :: (490, isTab #[]) :: τ ∨ i = 1 ∧ (∃ r0, rr = [.ref r0] ∧ σ' = (r0, isInts (List.replicate m0 0)) :: (x1, obj 445 d1 (cbf b1 f1 m1 k1 w 0)) :: (b1, isInts (List.replicate m1 0)) :: (d1, isAny) :: (f1, cf1) :: (cs1, isCell (some (.int s1 ts1))) :: (x0, obj 445 d0 (cbf b0 f0 m0 k0 w 0)) :: (b0, isInts (List.replicate m0 0)) :: (d0, isAny) :: (f0, cf0) :: (c', isCodeR hq) :: (cs0, isCell (some (.int s0 ts0))) :: (fl, isLst [.ref x0, .ref x1]) :: (469, isTab #[rawInt hpos.line, rawInt hpos.col, .ref c']) :: (rd, isInts [(k0 : Int), (k1 : Int)]) :: (sz, isInts [(m0 : Int), (m1 : Int)]) :: (sl, isInts [s0, s1]) :: (nu, isInts nl) :: (L, isNs [("script", some (.ref sc)), ("n", none), ("numbers", some (.ref nu)), ("bits", some (Value.int m0 t2)), ("rounds", some (.ref rd)), ("added", none), ("deed", none), ("key", none), ("one", none), ("least", none), ("told", none), ("due", none), ("alike", none), ("both", none), ("common", none), ("shared", none)]) :: (pn, isCell (none)) :: (fi, isCell (some (.ref fl))) :: (su, isCell (none)) :: (go, isCell (none)) :: (pl, isCell (none)) :: (rw', isCell (none)) :: (mu, isCell (none)) :: (rs, isCell (none)) :: (at', isCell (none)) :: (si, isCell (some (.ref sz))) :: (sa, isCell (some (.ref sl))) :: (wa, isCell (some (Value.int w t1))) :: (490, isTab #[]) :: τ) ∨ i = 2 ∧ (∃ r0 r1, rr = [.ref r0, .ref r1] ∧ σ' = (r1, isInts (List.replicate m1 0)) :: (r0, isInts (List.replicate m0 0)) :: (x1, obj 445 d1 (cbf b1 f1 m1 k1 w 0)) :: (b1, isInts (List.replicate m1 0)) :: (d1, isAny) :: (f1, cf1) :: (cs1, isCell (some (.int s1 ts1))) :: (x0, obj 445 d0 (cbf b0 f0 m0 k0 w 0)) :: (b0, isInts (List.replicate m0 0)) :: (d0, isAny) :: (f0, cf0) :: (c', isCodeR hq) :: (cs0, isCell (some (.int s0 ts0))) :: (fl, isLst [.ref x0, .ref x1]) :: (469, isTab #[rawInt hpos.line, rawInt hpos.col, .ref c']) :: (rd, isInts [(k0 : Int), (k1 : Int)]) :: (sz, isInts [(m0 : Int), (m1 : Int)]) :: (sl, isInts [s0, s1]) :: (nu, isInts nl) :: (L, isNs [("script", some (.ref sc)), ("n", none), ("numbers", some (.ref nu)), ("bits", some (Value.int m0 t2)), ("rounds", some (.ref rd)), ("added", none), ("deed", none), ("key", none), ("one", none), ("least", none), ("told", none), ("due", none), ("alike", none), ("both", none), ("common", none), ("shared", none)]) :: (pn, isCell (none)) :: (fi, isCell (some (.ref fl))) :: (su, isCell (none)) :: (go, isCell (none)) :: (pl, isCell (none)) :: (rw', isCell (none)) :: (mu, isCell (none)) :: (rs, isCell (none)) :: (at', isCell (none)) :: (si, isCell (some (.ref sz))) :: (sa, isCell (some (.ref sl))) :: (wa, isCell (some (Value.int w t1))) :: (490, isTab #[]) :: τ)),
        rfl, Iter.ints (ns := [(m0 : Int), (m1 : Int)]) hn, R₁.sel (by walk_at "b_sel"), ⟨_, rfl, .inl ⟨rfl, rfl, rfl⟩⟩, ?_, by rw [sizeLine_eq]; decide, ?_, ?_⟩
      · rintro i acc σ' ⟨rr, rfl, ⟨_, _, rfl⟩ | ⟨_, r0, _, rfl⟩ | ⟨_, r0, r1, _, rfl⟩⟩ <;> walk_at "b_mem"
      · rintro E' C D' cenv o i acc σ' s₂ v' he' hi ⟨n, t', hn', rfl⟩ ⟨rr, rfl, ⟨rfl, rfl, rfl⟩ | ⟨rfl, r0, rfl, rfl⟩ | ⟨rfl, _⟩⟩ R₂
        · obtain rfl : n = (m0 : Int) := by simpa using hn'.symm
          walk_at "b_go"
          refine w_List ?_
          walk_at "b_go"
          refine ⟨by show 1 ≤ sizeLine; decide, _, by assumption, fun l₀ s₆ R₆ => ?_⟩
          walk_at "b_go"
          refine w_mulL (l := l₀) (by assumption) (by walk_at "b_mem") (by omega) (by omega) (fun r0 s₇ R₇ => ?_)
          rw [Int.toNat_natCast] at R₇
          exact ⟨_, (r0, isInts (List.replicate m0 0)) :: (x1, obj 445 d1 (cbf b1 f1 m1 k1 w 0)) :: (b1, isInts (List.replicate m1 0)) :: (d1, isAny) :: (f1, cf1) :: (cs1, isCell (some (.int s1 ts1))) :: (x0, obj 445 d0 (cbf b0 f0 m0 k0 w 0)) :: (b0, isInts (List.replicate m0 0)) :: (d0, isAny) :: (f0, cf0) :: (c', isCodeR hq) :: (cs0, isCell (some (.int s0 ts0))) :: (fl, isLst [.ref x0, .ref x1]) :: (469, isTab #[rawInt hpos.line, rawInt hpos.col, .ref c']) :: (rd, isInts [(k0 : Int), (k1 : Int)]) :: (sz, isInts [(m0 : Int), (m1 : Int)]) :: (sl, isInts [s0, s1]) :: (nu, isInts nl) :: (L, isNs [("script", some (.ref sc)), ("n", none), ("numbers", some (.ref nu)), ("bits", some (Value.int m0 t2)), ("rounds", some (.ref rd)), ("added", none), ("deed", none), ("key", none), ("one", none), ("least", none), ("told", none), ("due", none), ("alike", none), ("both", none), ("common", none), ("shared", none)]) :: (pn, isCell (none)) :: (fi, isCell (some (.ref fl))) :: (su, isCell (none)) :: (go, isCell (none)) :: (pl, isCell (none)) :: (rw', isCell (none)) :: (mu, isCell (none)) :: (rs, isCell (none)) :: (at', isCell (none)) :: (si, isCell (some (.ref sz))) :: (sa, isCell (some (.ref sl))) :: (wa, isCell (some (Value.int w t1))) :: (490, isTab #[]) :: τ, R₇.sel (by walk_at "b_sel"), _, rfl, .inr (.inl ⟨rfl, r0, rfl, rfl⟩)⟩
        · obtain rfl : n = (m1 : Int) := by simpa using hn'.symm
          walk_at "b_go"
          refine w_List ?_
          walk_at "b_go"
          refine ⟨by show 1 ≤ sizeLine; decide, _, by assumption, fun l₀ s₆ R₆ => ?_⟩
          walk_at "b_go"
          refine w_mulL (l := l₀) (by assumption) (by walk_at "b_mem") (by omega) (by omega) (fun r1 s₇ R₇ => ?_)
          rw [Int.toNat_natCast] at R₇
          exact ⟨_, (r1, isInts (List.replicate m1 0)) :: (r0, isInts (List.replicate m0 0)) :: (x1, obj 445 d1 (cbf b1 f1 m1 k1 w 0)) :: (b1, isInts (List.replicate m1 0)) :: (d1, isAny) :: (f1, cf1) :: (cs1, isCell (some (.int s1 ts1))) :: (x0, obj 445 d0 (cbf b0 f0 m0 k0 w 0)) :: (b0, isInts (List.replicate m0 0)) :: (d0, isAny) :: (f0, cf0) :: (c', isCodeR hq) :: (cs0, isCell (some (.int s0 ts0))) :: (fl, isLst [.ref x0, .ref x1]) :: (469, isTab #[rawInt hpos.line, rawInt hpos.col, .ref c']) :: (rd, isInts [(k0 : Int), (k1 : Int)]) :: (sz, isInts [(m0 : Int), (m1 : Int)]) :: (sl, isInts [s0, s1]) :: (nu, isInts nl) :: (L, isNs [("script", some (.ref sc)), ("n", none), ("numbers", some (.ref nu)), ("bits", some (Value.int m0 t2)), ("rounds", some (.ref rd)), ("added", none), ("deed", none), ("key", none), ("one", none), ("least", none), ("told", none), ("due", none), ("alike", none), ("both", none), ("common", none), ("shared", none)]) :: (pn, isCell (none)) :: (fi, isCell (some (.ref fl))) :: (su, isCell (none)) :: (go, isCell (none)) :: (pl, isCell (none)) :: (rw', isCell (none)) :: (mu, isCell (none)) :: (rs, isCell (none)) :: (at', isCell (none)) :: (si, isCell (some (.ref sz))) :: (sa, isCell (some (.ref sl))) :: (wa, isCell (some (Value.int w t1))) :: (490, isTab #[]) :: τ, R₇.sel (by walk_at "b_sel"), _, rfl, .inr (.inr ⟨rfl, r0, r1, rfl, rfl⟩)⟩
        · exact absurd hi (by decide)
      · rintro rl acc σ' s₂ ⟨rr, rfl, ⟨h0, _⟩ | ⟨h0, _⟩ | ⟨_, r0, r1, rfl, rfl⟩⟩ R₂
        · exact absurd h0 (by decide)
        · exact absurd h0 (by decide)
        walk_at "b_go"
        refine w_List ?_
        walk_at "b_go"
        refine ⟨by show 2 ≤ sizeLine; decide, _, by assumption, fun ad s₆ R₆ => ?_⟩
        replace R₆ := Rep.toInts R₆ (.cons 0 _ (.cons 0 _ .nil))
        walk_at "b_st"
        refine k x0 d0 b0 f0 x1 d1 b1 f1 fl r0 r1 rl ad rd ((rd, isInts [(k0 : Int), (k1 : Int)]) :: (sz, isInts [(m0 : Int), (m1 : Int)]) :: (sl, isInts [s0, s1]) :: (nu, isInts nl) :: (d0, isAny) :: (d1, isAny) :: (f0, cf0) :: (f1, cf1) :: (c', isCodeR hq) :: (cs0, isCell (some (.int s0 ts0))) :: (cs1, isCell (some (.int s1 ts1))) :: (469, isTab #[rawInt hpos.line, rawInt hpos.col, .ref c']) :: τ) _ ⟨by walk_at "b_mem", by walk_at "b_mem", by walk_at "b_mem", by walk_at "b_mem", by walk_at "b_mem", by walk_at "b_mem", hH0.mono (sub3 (by walk_at "b_mem") (by walk_at "b_mem") (by walk_at "b_mem")), hH1.mono (sub3 (by walk_at "b_mem") (by walk_at "b_mem") (by walk_at "b_mem")), _, by walk_at "b_mem"⟩ (Rep.sel (by assumption) (by walk_at "b_sel"))
end
end Bl


namespace Bl
section
variable {G : Gd hd.heap_39} {A : Around} {E : Value → Shared → Prop} {σ τ : Led} {s : Shared} {env : Env}

def ksOf (c : Nat) (sa : Int) (k m : Nat) : List Nat := (placesOf c sa k).map fun v => (v.fmod m).toNat
theorem ksOf_len (c : Nat) (sa : Int) (k m : Nat) : (ksOf c sa k m).length = k := by simp [ksOf, placesOf]
theorem ksOf_map {c : Nat} {sa : Int} {k m : Nat} (hm : 0 < m) : (placesOf c sa k).map (fun v => v.fmod m) = (ksOf c sa k m).map (fun (j : Nat) => (j : Int)) := by
  unfold ksOf
  rw [List.map_map]
  refine List.map_congr_left fun v _ => ?_
  have := Int.fmod_nonneg_of_pos v (show (0 : Int) < m by omega)
  show _ = ((v.fmod m).toNat : Int)
  omega
theorem ksOf_lt {c : Nat} {sa : Int} {k m : Nat} (hm : 0 < m) : ∀ j ∈ ksOf c sa k m, j < m := fun j hj => by
  obtain ⟨v, _, rfl⟩ := List.mem_map.mp hj
  have h1 := Int.fmod_nonneg_of_pos v (show (0 : Int) < m by omega)
  have h2 := Int.fmod_lt_of_pos v (show (0 : Int) < m by omega)
  omega
theorem ksOf_nodup {c : Nat} {sa : Int} {k m : Nat} (hm : 0 < m) (hk : k ≤ m) : (ksOf c sa k m).Nodup := by
  unfold ksOf placesOf
  rw [List.map_map]
  refine List.Pairwise.map _ (R := fun a b => a < b ∧ b < k) ?_ ?_
  · intro a b ⟨hab, hb⟩ e
    have hmi : (0 : Int) < m := by omega
    have e2 : ((((c : Int) - 97) * 3 + sa + (a : Int)).fmod m) = ((((c : Int) - 97) * 3 + sa + (b : Int)).fmod m) := by
      have h1 := Int.fmod_nonneg_of_pos (((c : Int) - 97) * 3 + sa + (a : Int)) hmi
      have h2 := Int.fmod_nonneg_of_pos (((c : Int) - 97) * 3 + sa + (b : Int)) hmi
      have e' : ((((c : Int) - 97) * 3 + sa + (a : Int)).fmod m).toNat = ((((c : Int) - 97) * 3 + sa + (b : Int)).fmod m).toNat := e
      omega
    rw [Int.fmod_eq_emod_of_nonneg _ (Int.le_of_lt hmi), Int.fmod_eq_emod_of_nonneg _ (Int.le_of_lt hmi)] at e2
    have h3 := Int.emod_add_mul_ediv (((c : Int) - 97) * 3 + sa + (a : Int)) m
    have h4 := Int.emod_add_mul_ediv (((c : Int) - 97) * 3 + sa + (b : Int)) m
    have h5 : (m : Int) ∣ ((b : Int) - a) := by
      refine ⟨(((c : Int) - 97) * 3 + sa + (b : Int)) / m - (((c : Int) - 97) * 3 + sa + (a : Int)) / m, ?_⟩
      rw [Int.mul_sub]
      omega
    have h6 := Int.le_of_dvd (by omega) h5
    omega
  · have := List.pairwise_lt_range (n := k)
    refine List.Pairwise.imp_of_mem ?_ this
    intro a b ha hb hab
    exact ⟨hab, List.mem_range.mp hb⟩
theorem least_uniq {l : List Int} {M N : Int} (h : least l M) (h' : least l N) : M = N := by
  have h1 := h.2 _ h'.1
  have h2 := h'.2 _ h.1
  omega
theorem get_getD {l : List Int} {i : Nat} (h : i < l.length) : l[i]? = some (l.getD i 0) := by rw [List.getD_eq_getElem?_getD, List.getElem?_eq_getElem h]; rfl
theorem abc_get : ∀ i : Fin 8, (Str.ofString "abcdefgh").cps[i.val]? = some (97 + i.val) := by decide +kernel

def forB (K : Frag) : List Stmt := match (lawS K).drop 9 with
  | .For _ _ b _ _ :: _ => b
  | _ => []
theorem law_s1 {L pn fi su go pl rw' mu rs at' si sa wa sc nu sz sl rd fl rl ad xa da ba fa ra : Addr} {bv wv : Value} {tn : Tok} {o1 o2 o3 o4 o5 o6 c1 c2 c3 c4 c5 : Option Value} {n : Int} {j : Nat} {ma ka w : Nat} {sv na : Int} {ns : List Int} {fls rls : List Value} {as szs sls rds : List Int} {ρ : Led} {Q : Flow → Shared → Prop} (he : EnvIs env (lawSc G.K) L [("plain", pn), ("filters", fi), ("sums", su), ("gone", go), ("places", pl), ("row", rw'), ("much", mu), ("rows", rs), ("at", at'), ("sizes", si), ("salts", sa), ("wanted", wa)] (.ref 492))
    (R : Rep G ((L, isNs [("script", some (.ref sc)), ("n", some (Value.int n tn)), ("numbers", some (.ref nu)), ("bits", some bv), ("rounds", some (.ref rd)), ("added", some (.ref ad)), ("deed", o1), ("key", o2), ("one", o3), ("least", o4), ("told", o5), ("due", o6), ("alike", none), ("both", none), ("common", none), ("shared", none)]) :: (pn, isCell (none)) :: (fi, isCell (some (.ref fl))) :: (su, isCell (none)) :: (go, isCell (c1)) :: (pl, isCell (c2)) :: (rw', isCell (c3)) :: (mu, isCell (c4)) :: (rs, isCell (some (.ref rl))) :: (at', isCell (c5)) :: (si, isCell (some (.ref sz))) :: (sa, isCell (some (.ref sl))) :: (wa, isCell (some wv)) :: (xa, obj 445 da (cbf ba fa ma ka w na)) :: (ba, isInts ns) :: (ra, isInts ns) :: (rl, isLst rls) :: (ad, isInts as) :: ρ) s) (hroom : A.depth + 20 < recursionLimit) (hun : A.units + 1000 < cLine) (hh : A.handled = none)
    (hfl : Holds G ρ fl (isLst fls)) (hsz : Holds G ρ sz (isInts szs)) (hsl : Holds G ρ sl (isInts sls)) (hrd : Holds G ρ rd (isInts rds))
    (e1 : fls[j]? = some (.ref xa)) (e2 : rls[j]? = some (.ref ra)) (e3 : szs[j]? = some (ma : Int)) (e4 : sls[j]? = some sv) (e5 : rds[j]? = some (ka : Int))
    (hn : n.fmod 2 = j) (hj : j < 2) (hm : ma = ns.length) (hm0 : 0 < ma) (hm1 : ma ≤ 1000) (hka : 0 < ka) (hk1 : ka ≤ ma)
    (k : ∀ c td tk ta tl t5 pls M s', c = 97 + ((n.fdiv 12).fmod 8).toNat → least ((ksOf c sv ka ma).map fun j => ns.getD j 0) M →
      Rep G ((L, isNs [("script", some (.ref sc)), ("n", some (Value.int n tn)), ("numbers", some (.ref nu)), ("bits", some bv), ("rounds", some (.ref rd)), ("added", some (.ref ad)), ("deed", some (Value.int ((n.fdiv 2).fmod 6) td)), ("key", some (Value.str ⟨#[c]⟩ tk)), ("one", some (.ref xa)), ("least", some (Value.int M tl)), ("told", o5), ("due", o6), ("alike", none), ("both", none), ("common", none), ("shared", none)]) :: (pn, isCell (none)) :: (fi, isCell (some (.ref fl))) :: (su, isCell (none)) :: (go, isCell (c1)) :: (pl, isCell (some (.ref pls))) :: (rw', isCell (some (.ref ra))) :: (mu, isCell (some (Value.int (amounts.getD ((n.fdiv 96).fmod 8).toNat 0) ta))) :: (rs, isCell (some (.ref rl))) :: (at', isCell (some (Value.int j t5))) :: (si, isCell (some (.ref sz))) :: (sa, isCell (some (.ref sl))) :: (wa, isCell (some wv)) :: (pls, isInts ((ksOf c sv ka ma).map fun (j : Nat) => (j : Int))) :: (xa, obj 445 da (cbf ba fa ma ka w na)) :: (ba, isInts ns) :: (ra, isInts ns) :: (rl, isLst rls) :: (ad, isInts as) :: ρ) s' → wpAny (model G.prog G.w) A (execs ((forB G.K).drop 8) env) Q E s') :
    wpAny (model G.prog G.w) A (execs (forB G.K) env) Q E s := by
  conv at he => arg 2; whnf
  have hz : ∀ (x : Int) (q : Int), 0 < q → 0 ≤ x.fmod q ∧ x.fmod q < q := fun x q hq => ⟨Int.fmod_nonneg_of_pos x hq, Int.fmod_lt_of_pos x hq⟩
  refine wpAny_execs_cons ?_
  walk_at "b_go"
  refine w_mod (by assumption) (by decide) (fun t5 _ _ => ?_)
  rw [hn]
  walk_at "b_go"
  refine w_fdiv (by assumption) (by decide) (by decide +kernel) (fun _ _ _ => ?_)
  walk_at "b_go"
  refine w_mod (by assumption) (by decide) (fun td _ _ => ?_)
  walk_at "b_go"
  refine w_fdiv (by assumption) (by decide) (by decide +kernel) (fun _ _ _ => ?_)
  walk_at "b_go"
  refine w_mod (by assumption) (by decide) (fun _ _ _ => ?_)
  walk_at "b_go"
  obtain ⟨q1, q2⟩ := hz (n.fdiv 12) 8 (by decide)
  obtain ⟨q3, q4⟩ := hz (n.fdiv 96) 8 (by decide)
  refine w_strIx (c := 97 + ((n.fdiv 12).fmod 8).toNat) (by assumption) q1 (by omega) (abc_get ⟨((n.fdiv 12).fmod 8).toNat, by omega⟩) (fun tk _ _ => ?_)
  generalize hc : 97 + ((n.fdiv 12).fmod 8).toNat = c
  walk_at "b_go"
  refine x_callM (sp_amounts (by assumption) (by omega) (fun D₁ s₁ R₁ => ?_))
  walk_at "b_go"
  refine w_fdiv (by assumption) (by decide) (by decide +kernel) (fun _ _ _ => ?_)
  walk_at "b_go"
  refine w_mod (by assumption) (by decide) (fun _ _ _ => ?_)
  refine w_itemI (n := amounts.getD ((n.fdiv 96).fmod 8).toNat 0) (by assumption) (by walk_at "b_mem") q3 (get_getD (by show _ < 8; omega)) (by omega) (fun ta => ?_)
  walk_at "b_go"
  refine w_item (v := .ref xa) (by assumption) (by walk_at "b_mem") (by omega) e1 (by omega) ?_
  walk_at "b_go"
  refine w_item (v := .ref ra) (by assumption) (by walk_at "b_mem") (by omega) e2 (by omega) ?_
  walk_at "b_go"
  refine x_AssignCellComp he ?_
  refine w_ListComp (fun o => [(Str.ofString ".0", none), (Str.ofString "place", o)]) none hh he rfl ?_
  walk_at "b_go"
  refine w_itemI (n := (ka : Int)) (by assumption) (by walk_at "b_mem") (by omega) e5 (by omega) (fun _ => ?_)
  walk_at "b_go"
  refine w_itemI (n := sv) (by assumption) (by walk_at "b_mem") (by omega) e4 (by omega) (fun _ => ?_)
  walk_at "b_go"
  refine x_callM (sp_places (c := c) (y := ⟨#[c]⟩) (d := ka) (salt := sv) (by assumption) (by omega) hh rfl (by omega) (fun D₂ s₂ R₂ => ?_))
  refine w_iterInts R₂ .head (fun it s₃ hn₃ R₃ => ?_)
  have hkl := ksOf_len c sv ka ma
  have hkm := ksOf_map (c := c) (sa := sv) (k := ka) hm0
  have hklt := ksOf_lt (c := c) (sa := sv) (k := ka) hm0
  generalize hks : ksOf c sv ka ma = ks at hkl hkm hklt
  have hpl : (placesOf (c : Int) sv ka).length = ka := by simp [placesOf]
  refine ⟨it, _, ka, _, _, _, fun i acc σ' => σ' = (D₂, isInts (placesOf (c : Int) sv ka)) :: (L, isNs [("script", some (.ref sc)), ("n", some (Value.int n tn)), ("numbers", some (.ref nu)), ("bits", some bv), ("rounds", some (.ref rd)), ("added", some (.ref ad)), ("deed", some (Value.int ((n.fdiv 2).fmod 6) td)), ("key", some (Value.str ⟨#[c]⟩ tk)), ("one", some (.ref xa)), ("least", o4), ("told", o5), ("due", o6), ("alike", none), ("both", none), ("common", none), ("shared", none)]) :: (pn, isCell (none)) :: (fi, isCell (some (.ref fl))) :: (su, isCell (none)) :: (go, isCell (c1)) :: (pl, isCell (c2)) :: (rw', isCell (some (.ref ra))) :: (mu, isCell (some (Value.int (amounts.getD ((n.fdiv 96).fmod 8).toNat 0) ta))) :: (rs, isCell (some (.ref rl))) :: (at', isCell (some (Value.int j t5))) :: (si, isCell (some (.ref sz))) :: (sa, isCell (some (.ref sl))) :: (wa, isCell (some wv)) :: (xa, obj 445 da (cbf ba fa ma ka w na)) :: (ba, isInts ns) :: (ra, isInts ns) :: (rl, isLst rls) :: (ad, isInts as) :: ρ ∧ IntsAre acc (((placesOf (c : Int) sv ka).map (fun v => v.fmod ma)).take i), rfl, hpl ▸ Iter.ints (ns := placesOf (c : Int) sv ka) hn₃, R₃.sel (by walk_at "b_sel"), ⟨rfl, .nil⟩, fun _ _ σ' h => by rw [h.1]; exact .head, by rw [sizeLine_eq]; omega, ?_, ?_⟩
  · rintro E' C D' cenv o i acc σ' s₄ v' he' hi ⟨v, t', hv, rfl⟩ ⟨rfl, hacc⟩ R₄
    walk_at "b_go"
    refine w_itemI (n := (ma : Int)) (by assumption) (by walk_at "b_mem") (by omega) e3 (by omega) (fun _ => ?_)
    refine w_mod (by assumption) (by omega) (fun _ _ _ => ?_)
    refine ⟨_, _, by assumption, rfl, ?_⟩
    rw [List.take_add_one, List.getElem?_map, hv]
    exact ints_snoc hacc _ _
  · rintro pls acc σ' s₄ ⟨rfl, hacc⟩ R₄
    rw [List.take_of_length_le (by simp [hpl]), hkm] at hacc
    replace R₄ := R₄.toInts hacc
    clear R₃ R₂ R₁ R
    walk_at "b_go"
    refine w_ListComp (fun o => [(Str.ofString ".0", none), (Str.ofString "place", o)]) none hh he rfl ?_
    walk_at "b_go"
    refine w_iterInts (by assumption) (by walk_at "b_mem") (fun it₂ s₅ hn₅ R₅ => ?_)
    refine ⟨it₂, _, ka, _, _, _, fun i acc σ' => σ' = (pls, isInts (ks.map fun (j : Nat) => (j : Int))) :: (L, isNs [("script", some (.ref sc)), ("n", some (Value.int n tn)), ("numbers", some (.ref nu)), ("bits", some bv), ("rounds", some (.ref rd)), ("added", some (.ref ad)), ("deed", some (Value.int ((n.fdiv 2).fmod 6) td)), ("key", some (Value.str ⟨#[c]⟩ tk)), ("one", some (.ref xa)), ("least", o4), ("told", o5), ("due", o6), ("alike", none), ("both", none), ("common", none), ("shared", none)]) :: (pn, isCell (none)) :: (fi, isCell (some (.ref fl))) :: (su, isCell (none)) :: (go, isCell (c1)) :: (pl, isCell (some (.ref pls))) :: (rw', isCell (some (.ref ra))) :: (mu, isCell (some (Value.int (amounts.getD ((n.fdiv 96).fmod 8).toNat 0) ta))) :: (rs, isCell (some (.ref rl))) :: (at', isCell (some (Value.int j t5))) :: (si, isCell (some (.ref sz))) :: (sa, isCell (some (.ref sl))) :: (wa, isCell (some wv)) :: (xa, obj 445 da (cbf ba fa ma ka w na)) :: (ba, isInts ns) :: (ra, isInts ns) :: (rl, isLst rls) :: (ad, isInts as) :: ρ ∧ IntsAre acc ((ks.map fun j => ns.getD j 0).take i), rfl, (show (ks.map fun (j : Nat) => (j : Int)).length = ka by simp [hkl]) ▸ Iter.ints (ns := ks.map fun (j : Nat) => (j : Int)) hn₅, R₅.sel (by walk_at "b_sel"), ⟨rfl, .nil⟩, fun _ _ σ' h => by rw [h.1]; walk_at "b_mem", by rw [sizeLine_eq]; omega, ?_, ?_⟩
    · rintro E' C D' cenv o i acc σ' s₆ v' he' hi ⟨v, t', hv, rfl⟩ ⟨rfl, hacc⟩ R₆
      obtain ⟨kk, hkk, rfl⟩ : ∃ kk, ks[i]? = some kk ∧ (kk : Int) = v := by
        rw [List.getElem?_map] at hv
        cases e : ks[i]? with
        | none => rw [e] at hv; cases hv
        | some kk => rw [e] at hv; exact ⟨kk, rfl, by simpa using hv⟩
      have hlt := hklt kk (List.mem_of_getElem? hkk)
      walk_at "b_go"
      refine w_itemI (n := ns.getD kk 0) (by assumption) (by walk_at "b_mem") (by omega) (get_getD (by omega)) (by omega) (fun _ => ?_)
      refine ⟨_, _, by assumption, rfl, ?_⟩
      rw [List.take_add_one, List.getElem?_map, hkk]
      exact ints_snoc hacc _ _
    · rintro D₃ acc σ' s₆ ⟨rfl, hacc⟩ R₆
      rw [List.take_of_length_le (by simp [hkl])] at hacc
      replace R₆ := R₆.toInts hacc
      walk_at "b_go"
      refine w_minL (l := D₃) hh (by assumption) (by walk_at "b_mem") (fun q => by have := congrArg List.length q; simp [hkl] at this; omega) (fun M tl s₇ hM R₇ => ?_)
      walk_at "b_st"
      subst hks
      refine k c td tk ta tl t5 pls M _ hc.symm ?_ (Rep.sel (by assumption) (by walk_at "b_sel"))
      exact hM
end
end Bl


namespace Bl
section
variable {G : Gd hd.heap_39} {A : Around} {E : Value → Shared → Prop} {σ τ : Led} {s : Shared} {env : Env}

/-- the branches of a turn -/
def brs (K : Frag) : List (List Stmt) := match (forB K).drop 8 with
  | .If _ b1 [.If _ b2 [.If _ b3 [.If _ b4 b5 _] _] _] _ :: _ => [b1, b2, b3, b4, b5]
  | _ => []
def br (K : Frag) (i : Nat) : List Stmt := (brs K).getD i []
def Same (tv dv : Value) : Prop := (∃ a t t', tv = .int a t ∧ dv = .int a t') ∨ ∃ b, tv = .bool b ∧ dv = .bool b
theorem set_same {α : Type} {l : List α} {j : Nat} {v : α} (h : l[j]? = some v) : l.set j v = l := by
  refine List.ext_getElem? fun i => ?_
  rw [List.getElem?_set]
  split
  · rename_i e; subst e
    obtain ⟨h1, h2⟩ := List.getElem?_eq_some_iff.mp h
    simp [h1, h2]
  · rfl
theorem addAt_in {a : Int} {j : Nat} : ∀ {ks : List Nat} {ns : List Int}, j ∈ ks → ks.Nodup → j < ns.length → (addAt ns ks a).getD j 0 = min (ns.getD j 0 + a) U32
  | k :: ks, ns, h, hn, hl => by
    have hn' := List.nodup_cons.mp hn
    show (addAt (ns.set k _) ks a).getD j 0 = _
    rcases List.mem_cons.mp h with rfl | h
    · rw [addAt_get hn'.1]
      simp [List.getD_eq_getElem?_getD, hl]
    · have hne : k ≠ j := fun q => hn'.1 (q ▸ h)
      rw [addAt_in h hn'.2 (by simpa using hl)]
      simp [List.getD_eq_getElem?_getD, List.getElem?_set_ne hne]
theorem addAt_row {a : Int} {ks : List Nat} {ns : List Int} (hn : ks.Nodup) (hl : ∀ j ∈ ks, j < ns.length) : (List.range ns.length).map (fun i => if i ∈ ks then min (ns.getD i 0 + a) U32 else ns.getD i 0) = addAt ns ks a := by
  refine List.ext_getElem? fun i => ?_
  rw [List.getElem?_map]
  by_cases hi : i < ns.length
  · rw [List.getElem?_range hi, get_getD (l := addAt ns ks a) (by rw [addAt_len]; exact hi)]
    simp only [Option.map_some]
    congr 1
    by_cases hk : i ∈ ks
    · rw [if_pos hk, addAt_in hk hn hi]
    · rw [if_neg hk, addAt_get hk]
  · rw [List.getElem?_eq_none (by simp; omega), List.getElem?_eq_none (by rw [addAt_len]; omega)]; rfl
theorem addAt_bd {a : Int} (ha : 0 ≤ a) : ∀ {ks : List Nat} {ns : List Int}, (∀ v ∈ ns, 0 ≤ v ∧ v ≤ U32) → ∀ v ∈ addAt ns ks a, 0 ≤ v ∧ v ≤ U32
  | [], ns, h => h
  | k :: ks, ns, h => by
    show ∀ v ∈ addAt (ns.set k _) ks a, _
    refine addAt_bd ha fun v hv => ?_
    rcases List.mem_or_eq_of_mem_set hv with hv | rfl
    · exact h v hv
    · have : 0 ≤ ns.getD k 0 := by
        rw [List.getD_eq_getElem?_getD]
        cases e : ns[k]? with
        | none => exact Int.le_refl 0
        | some x => exact (h x (List.mem_of_getElem? e)).1
      unfold U32
      omega
theorem law_add {L pn fi su go pl rw' mu rs at' si sa wa sc nu sz sl rd fl rl ad xa da ba fa ra pls : Addr} {bv wv : Value} {tn td tk tl ta t5 : Tok} {o5 o6 c1 : Option Value} {n dd Ml a : Int} {j c : Nat} {ma ka w : Nat} {sv na : Int} {ns : List Int} {ks : List Nat} {fls rls : List Value} {as szs : List Int} {ρ : Led} {Q : Flow → Shared → Prop} (he : EnvIs env (lawSc G.K) L [("plain", pn), ("filters", fi), ("sums", su), ("gone", go), ("places", pl), ("row", rw'), ("much", mu), ("rows", rs), ("at", at'), ("sizes", si), ("salts", sa), ("wanted", wa)] (.ref 492)) (hroom : A.depth + 20 < recursionLimit) (hun : A.units + 1000 < cLine) (hh : A.handled = none) (hg : 401 ∈ G.gtabs) (hgp : G.gensP = AllBare) (hfl : Holds G ρ fl (isLst fls)) (hsz : Holds G ρ sz (isInts szs)) (hda : Holds G ρ da isAny) (hfa : IsHash G ρ fa sv) (e1 : fls[j]? = some (.ref xa)) (e2 : rls[j]? = some (.ref ra)) (e3 : szs[j]? = some (ma : Int)) (e6 : as[j]? = some na) (hj : j < 2) (hm : ma = ns.length) (hm0 : 0 < ma) (hm1 : ma ≤ 1000) (hka : 0 < ka) (hk1 : ka ≤ ma) (hkl : ks.length = ka) (hkm : (placesOf (c : Int) sv ka).map (fun v => v.fmod ma) = ks.map (fun (j : Nat) => (j : Int))) (hklt : ∀ j ∈ ks, j < ma) (hnd : ks.Nodup) (ha0 : 0 ≤ a) (ha1 : a ≤ 4294967295) (hns : ∀ v ∈ ns, 0 ≤ v ∧ v ≤ U32) (hna : na ≤ 9223372036854775808) (hMl : least (ks.map fun j => ns.getD j 0) Ml)
    (R : Rep G ((L, isNs [("script", some (.ref sc)), ("n", some (Value.int n tn)), ("numbers", some (.ref nu)), ("bits", some bv), ("rounds", some (.ref rd)), ("added", some (.ref ad)), ("deed", some (Value.int dd td)), ("key", some (Value.str ⟨#[c]⟩ tk)), ("one", some (.ref xa)), ("least", some (Value.int Ml tl)), ("told", o5), ("due", o6), ("alike", none), ("both", none), ("common", none), ("shared", none)]) :: (pn, isCell (none)) :: (fi, isCell (some (.ref fl))) :: (su, isCell (none)) :: (go, isCell (c1)) :: (pl, isCell (some (.ref pls))) :: (rw', isCell (some (.ref ra))) :: (mu, isCell (some (Value.int a ta))) :: (rs, isCell (some (.ref rl))) :: (at', isCell (some (Value.int j t5))) :: (si, isCell (some (.ref sz))) :: (sa, isCell (some (.ref sl))) :: (wa, isCell (some wv)) :: (pls, isInts (ks.map fun (j : Nat) => (j : Int))) :: (xa, obj 445 da (cbf ba fa ma ka w na)) :: (ba, isInts ns) :: (ra, isInts ns) :: (rl, isLst rls) :: (ad, isInts as) :: ρ) s)
    (k : ∀ tv dv g na' ns' ra' s', Same tv dv → ns'.length = ns.length → (∀ v ∈ ns', 0 ≤ v ∧ v ≤ U32) → na' ≤ max na 0 + 4294967296 → Rep G ((L, isNs [("script", some (.ref sc)), ("n", some (Value.int n tn)), ("numbers", some (.ref nu)), ("bits", some bv), ("rounds", some (.ref rd)), ("added", some (.ref ad)), ("deed", some (Value.int dd td)), ("key", some (Value.str ⟨#[c]⟩ tk)), ("one", some (.ref xa)), ("least", some (Value.int Ml tl)), ("told", some tv), ("due", some dv), ("alike", none), ("both", none), ("common", none), ("shared", none)]) :: (pn, isCell (none)) :: (fi, isCell (some (.ref fl))) :: (su, isCell (none)) :: (go, isCell (g)) :: (pl, isCell (some (.ref pls))) :: (rw', isCell (some (.ref ra))) :: (mu, isCell (some (Value.int a ta))) :: (rs, isCell (some (.ref rl))) :: (at', isCell (some (Value.int j t5))) :: (si, isCell (some (.ref sz))) :: (sa, isCell (some (.ref sl))) :: (wa, isCell (some wv)) :: (pls, isInts (ks.map fun (j : Nat) => (j : Int))) :: (xa, obj 445 da (cbf ba fa ma ka w na')) :: (ba, isInts ns') :: (ra', isInts ns') :: (rl, isLst (rls.set j (.ref ra'))) :: (ad, isInts (as.set j na')) :: ρ) s' → Q .next s') :
    wpAny (model G.prog G.w) A (execs (br G.K 0) env) Q E s := by
  conv at he => arg 2; whnf
  refine wpAny_execs_cons ?_
  walk_at "b_go"
  refine x_callM (sp_add (k := ka) (c := c) (ks := ks) (Rep.sel (by assumption) (by walk_at "b_sel")) (by walk_at "b_mem") (hfa.mono (by repeat (first | exact Sub.refl | apply Sub.cons))) (by omega) hh rfl hm hm0 hm1 hkl.symm hka (by omega) hkm hnd ha0 hns (fun M tM s₁ hM R₁ => ?_))
  have hmin : min (na + a) 18446744073709551615 = na + a := by omega
  rw [hmin] at R₁
  walk_at "b_go"
  refine w_ListComp (fun o => [(Str.ofString ".0", none), (Str.ofString "place", o)]) none hh he rfl ?_
  walk_at "b_go"
  refine w_itemI (n := (ma : Int)) (by assumption) (by walk_at "b_mem") (by omega) e3 (by omega) (fun _ => ?_)
  walk_at "b_go"
  refine w_iterRange (n := ma) (by assumption) (by walk_at "b_mem") (by omega) (by omega) (by omega) (fun it s₂ hn₂ R₂ => ?_)
  refine ⟨it, _, ma, _, _, _, fun i acc σ' => σ' = (xa, obj 445 da (cbf ba fa ma ka w (na + a))) :: (ba, isInts (addAt ns ks a)) :: (L, isNs [("script", some (.ref sc)), ("n", some (Value.int n tn)), ("numbers", some (.ref nu)), ("bits", some bv), ("rounds", some (.ref rd)), ("added", some (.ref ad)), ("deed", some (Value.int dd td)), ("key", some (Value.str ⟨#[c]⟩ tk)), ("one", some (.ref xa)), ("least", some (Value.int Ml tl)), ("told", some (Value.int M tM)), ("due", o6), ("alike", none), ("both", none), ("common", none), ("shared", none)]) :: (pn, isCell (none)) :: (fi, isCell (some (.ref fl))) :: (su, isCell (none)) :: (go, isCell (c1)) :: (pl, isCell (some (.ref pls))) :: (rw', isCell (some (.ref ra))) :: (mu, isCell (some (Value.int a ta))) :: (rs, isCell (some (.ref rl))) :: (at', isCell (some (Value.int j t5))) :: (si, isCell (some (.ref sz))) :: (sa, isCell (some (.ref sl))) :: (wa, isCell (some wv)) :: (pls, isInts (ks.map fun (j : Nat) => (j : Int))) :: (ra, isInts ns) :: (rl, isLst rls) :: (ad, isInts as) :: ρ ∧ IntsAre acc ((List.range i).map (fun i => if i ∈ ks then min (ns.getD i 0 + a) U32 else ns.getD i 0)), rfl, Iter.range hn₂ _ _ _, R₂.sel (by walk_at "b_sel"), ⟨rfl, .nil⟩, fun _ _ _ _ => trivial, by rw [sizeLine_eq]; omega, ?_, ?_⟩
  · rintro E' C D' cenv o i acc σ' s₃ v' he' hi ⟨t', rfl⟩ ⟨rfl, hacc⟩ R₃
    have hti : (0 + (i : Int) * 1) = i := by omega
    rw [hti] at *
    walk_at "b_go"
    refine w_inI (l := pls) (ns := ks.map fun (j : Nat) => (j : Int)) (by assumption) (by walk_at "b_mem") ?_
    walk_at "b_go"
    refine ite_dec (fun hin => ?_) (fun hin => ?_)
    · have hin' : i ∈ ks := by obtain ⟨q, hq, e⟩ := List.mem_map.mp hin; have : q = i := by omega
                               rw [← this]; exact hq
      walk_at "b_go"
      refine w_itemI (n := ns.getD i 0) (by assumption) (by walk_at "b_mem") (by omega) (get_getD (by simp; omega)) (by omega) (fun _ => ?_)
      walk_at "b_go"
      refine ⟨_, _, by assumption, rfl, ?_⟩
      rw [List.range_succ, List.map_append]
      simp only [List.map_cons, List.map_nil, if_pos hin']
      exact ints_snoc hacc _ _
    · have hin' : ¬ i ∈ ks := fun q => hin (List.mem_map.mpr ⟨i, q, rfl⟩)
      walk_at "b_go"
      refine w_itemI (n := ns.getD i 0) (by assumption) (by walk_at "b_mem") (by omega) (get_getD (by simp; omega)) (by omega) (fun _ => ?_)
      refine ⟨_, _, by assumption, rfl, ?_⟩
      rw [List.range_succ, List.map_append]
      simp only [List.map_cons, List.map_nil, if_neg hin']
      exact ints_snoc hacc _ _
  · rintro r' acc σ' s₃ ⟨rfl, hacc⟩ R₃
    rw [hm, addAt_row hnd (by intro j hj'; have := hklt j hj'; omega)] at hacc
    replace R₃ := R₃.toInts hacc
    walk_at "b_go"
    have hjr : j < rls.length := (List.getElem?_eq_some_iff.mp e2).1
    have hja : j < as.length := (List.getElem?_eq_some_iff.mp e6).1
    refine w_setItem (by assumption) (by walk_at "b_upd") (by omega) (by omega) (by omega) (fun s₄ R₄ => ?_)
    walk_at "b_go"
    refine w_itemI (n := na) (by assumption) (by walk_at "b_mem") (by omega) e6 (by omega) (fun _ => ?_)
    walk_at "b_go"
    refine w_setItemI (by assumption) (by walk_at "b_upd") (by omega) (by omega) (by omega) (fun s₅ R₅ => ?_)
    rw [Int.toNat_natCast] at R₅
    walk_at "b_go"
    refine w_ListComp (fun o => [(Str.ofString ".0", none), (Str.ofString "place", o)]) none hh he rfl ?_
    walk_at "b_go"
    refine w_iterInts (by assumption) (by walk_at "b_mem") (fun it₂ s₆ hn₆ R₆ => ?_)
    refine ⟨it₂, _, ka, _, _, _, fun i acc σ' => σ' = (rl, isLst (rls.set j (.ref r'))) :: (ad, isInts (as.set j (na + a))) :: (xa, obj 445 da (cbf ba fa ma ka w (na + a))) :: (ba, isInts (addAt ns ks a)) :: (r', isInts (addAt ns ks a)) :: (L, isNs [("script", some (.ref sc)), ("n", some (Value.int n tn)), ("numbers", some (.ref nu)), ("bits", some bv), ("rounds", some (.ref rd)), ("added", some (.ref ad)), ("deed", some (Value.int dd td)), ("key", some (Value.str ⟨#[c]⟩ tk)), ("one", some (.ref xa)), ("least", some (Value.int Ml tl)), ("told", some (Value.int M tM)), ("due", o6), ("alike", none), ("both", none), ("common", none), ("shared", none)]) :: (pn, isCell (none)) :: (fi, isCell (some (.ref fl))) :: (su, isCell (none)) :: (go, isCell (c1)) :: (pl, isCell (some (.ref pls))) :: (rw', isCell (some (.ref ra))) :: (mu, isCell (some (Value.int a ta))) :: (rs, isCell (some (.ref rl))) :: (at', isCell (some (Value.int j t5))) :: (si, isCell (some (.ref sz))) :: (sa, isCell (some (.ref sl))) :: (wa, isCell (some wv)) :: (pls, isInts (ks.map fun (j : Nat) => (j : Int))) :: ρ ∧ IntsAre acc ((ks.map fun j => (addAt ns ks a).getD j 0).take i), rfl, (show (ks.map fun (j : Nat) => (j : Int)).length = ka by simp [hkl]) ▸ Iter.ints (ns := ks.map fun (j : Nat) => (j : Int)) hn₆, R₆.sel (by walk_at "b_sel"), ⟨rfl, .nil⟩, fun _ _ σ' h => by rw [h.1]; walk_at "b_mem", by rw [sizeLine_eq]; omega, ?_, ?_⟩
    · rintro E' C D' cenv o i acc σ' s₇ v' he' hi ⟨v, t', hv, rfl⟩ ⟨rfl, hacc⟩ R₇
      obtain ⟨kk, hkk, rfl⟩ : ∃ kk, ks[i]? = some kk ∧ (kk : Int) = v := by
        rw [List.getElem?_map] at hv
        cases e : ks[i]? with
        | none => rw [e] at hv; cases hv
        | some kk => rw [e] at hv; exact ⟨kk, rfl, by simpa using hv⟩
      have hlt := hklt kk (List.mem_of_getElem? hkk)
      walk_at "b_go"
      refine w_item (v := .ref r') (by assumption) (by walk_at "b_mem") (by omega) (by simp [hjr]) (by omega) ?_
      walk_at "b_go"
      refine w_itemI (n := (addAt ns ks a).getD kk 0) (by assumption) (by walk_at "b_mem") (by omega) (get_getD (by simp [addAt_len]; omega)) (by omega) (fun _ => ?_)
      refine ⟨_, _, by assumption, rfl, ?_⟩
      rw [List.take_add_one, List.getElem?_map, hkk]
      exact ints_snoc hacc _ _
    · rintro D₃ acc σ' s₇ ⟨rfl, hacc⟩ R₇
      rw [List.take_of_length_le (by simp [hkl])] at hacc
      replace R₇ := R₇.toInts hacc
      walk_at "b_go"
      refine w_minL (l := D₃) hh (by assumption) (by walk_at "b_mem") (fun q => by have := congrArg List.length q; simp [hkl] at this; omega) (fun M' tl s₈ hM' R₈ => ?_)
      walk_at "b_go"
      have eM : M = M' := by
        have e : (ks.map fun j => (addAt ns ks a).getD j 0) = ks.map fun j => min (ns.getD j 0 + a) U32 := List.map_congr_left fun j hj' => addAt_in hj' hnd (by have := hklt j hj'; omega)
        rw [e] at hM'
        exact least_uniq hM hM'
      subst eM
      refine k _ _ _ (na + a) (addAt ns ks a) r' _ (.inl ⟨M, _, _, rfl, rfl⟩) addAt_len (addAt_bd ha0 hns) (by omega) (Rep.sel (by assumption) (by walk_at "b_sel"))
end
end Bl


namespace Bl
section
variable {G : Gd hd.heap_39} {A : Around} {E : Value → Shared → Prop} {σ τ : Led} {s : Shared} {env : Env}

theorem law_chk {L pn fi su go pl rw' mu rs at' si sa wa sc nu sz sl rd fl rl ad xa da ba fa ra pls : Addr} {bv wv : Value} {tn td tk tl ta t5 : Tok} {o5 o6 c1 : Option Value} {n dd Ml a : Int} {j c : Nat} {ma ka w : Nat} {sv na : Int} {ns : List Int} {ks : List Nat} {fls rls : List Value} {as szs : List Int} {ρ : Led} {Q : Flow → Shared → Prop} (he : EnvIs env (lawSc G.K) L [("plain", pn), ("filters", fi), ("sums", su), ("gone", go), ("places", pl), ("row", rw'), ("much", mu), ("rows", rs), ("at", at'), ("sizes", si), ("salts", sa), ("wanted", wa)] (.ref 492)) (hroom : A.depth + 20 < recursionLimit) (hun : A.units + 1000 < cLine) (hh : A.handled = none) (hg : 401 ∈ G.gtabs) (hgp : G.gensP = AllBare) (hfl : Holds G ρ fl (isLst fls)) (hsz : Holds G ρ sz (isInts szs)) (hda : Holds G ρ da isAny) (hfa : IsHash G ρ fa sv) (e1 : fls[j]? = some (.ref xa)) (e2 : rls[j]? = some (.ref ra)) (e3 : szs[j]? = some (ma : Int)) (e6 : as[j]? = some na) (hj : j < 2) (hm : ma = ns.length) (hm0 : 0 < ma) (hm1 : ma ≤ 1000) (hka : 0 < ka) (hk1 : ka ≤ ma) (hkl : ks.length = ka) (hkm : (placesOf (c : Int) sv ka).map (fun v => v.fmod ma) = ks.map (fun (j : Nat) => (j : Int))) (hklt : ∀ j ∈ ks, j < ma) (hnd : ks.Nodup) (ha0 : 0 ≤ a) (ha1 : a ≤ 4294967295) (hns : ∀ v ∈ ns, 0 ≤ v ∧ v ≤ U32) (hna : na ≤ 9223372036854775808) (hMl : least (ks.map fun j => ns.getD j 0) Ml)
    (R : Rep G ((L, isNs [("script", some (.ref sc)), ("n", some (Value.int n tn)), ("numbers", some (.ref nu)), ("bits", some bv), ("rounds", some (.ref rd)), ("added", some (.ref ad)), ("deed", some (Value.int dd td)), ("key", some (Value.str ⟨#[c]⟩ tk)), ("one", some (.ref xa)), ("least", some (Value.int Ml tl)), ("told", o5), ("due", o6), ("alike", none), ("both", none), ("common", none), ("shared", none)]) :: (pn, isCell (none)) :: (fi, isCell (some (.ref fl))) :: (su, isCell (none)) :: (go, isCell (c1)) :: (pl, isCell (some (.ref pls))) :: (rw', isCell (some (.ref ra))) :: (mu, isCell (some (Value.int a ta))) :: (rs, isCell (some (.ref rl))) :: (at', isCell (some (Value.int j t5))) :: (si, isCell (some (.ref sz))) :: (sa, isCell (some (.ref sl))) :: (wa, isCell (some wv)) :: (pls, isInts (ks.map fun (j : Nat) => (j : Int))) :: (xa, obj 445 da (cbf ba fa ma ka w na)) :: (ba, isInts ns) :: (ra, isInts ns) :: (rl, isLst rls) :: (ad, isInts as) :: ρ) s)
    (k : ∀ tv dv g na' ns' ra' s', Same tv dv → ns'.length = ns.length → (∀ v ∈ ns', 0 ≤ v ∧ v ≤ U32) → na' ≤ max na 0 + 4294967296 → Rep G ((L, isNs [("script", some (.ref sc)), ("n", some (Value.int n tn)), ("numbers", some (.ref nu)), ("bits", some bv), ("rounds", some (.ref rd)), ("added", some (.ref ad)), ("deed", some (Value.int dd td)), ("key", some (Value.str ⟨#[c]⟩ tk)), ("one", some (.ref xa)), ("least", some (Value.int Ml tl)), ("told", some tv), ("due", some dv), ("alike", none), ("both", none), ("common", none), ("shared", none)]) :: (pn, isCell (none)) :: (fi, isCell (some (.ref fl))) :: (su, isCell (none)) :: (go, isCell (g)) :: (pl, isCell (some (.ref pls))) :: (rw', isCell (some (.ref ra))) :: (mu, isCell (some (Value.int a ta))) :: (rs, isCell (some (.ref rl))) :: (at', isCell (some (Value.int j t5))) :: (si, isCell (some (.ref sz))) :: (sa, isCell (some (.ref sl))) :: (wa, isCell (some wv)) :: (pls, isInts (ks.map fun (j : Nat) => (j : Int))) :: (xa, obj 445 da (cbf ba fa ma ka w na')) :: (ba, isInts ns') :: (ra', isInts ns') :: (rl, isLst (rls.set j (.ref ra'))) :: (ad, isInts (as.set j na')) :: ρ) s' → Q .next s') :
    wpAny (model G.prog G.w) A (execs (br G.K 1) env) Q E s := by
  conv at he => arg 2; whnf
  refine wpAny_execs_cons ?_
  walk_at "b_go"
  refine x_callM (sp_check (k := ka) (c := c) (ks := ks) (Rep.sel (by assumption) (by walk_at "b_sel")) (by walk_at "b_mem") (hfa.mono (by repeat (first | exact Sub.refl | apply Sub.cons))) hg hgp (by omega) hh rfl hm hm0 hm1 hkl.symm hka (by omega) hkm (fun M tM s₁ hM R₁ => ?_))
  walk_at "b_go"
  have eM := least_uniq hM hMl
  subst eM
  refine k _ _ c1 na ns ra _ (.inl ⟨M, tM, tl, rfl, rfl⟩) rfl hns (by omega) ?_
  rw [set_same e2, set_same e6]
  exact Rep.sel (by assumption) (by walk_at "b_sel")

theorem law_clr {L pn fi su go pl rw' mu rs at' si sa wa sc nu sz sl rd fl rl ad xa da ba fa ra pls : Addr} {bv wv : Value} {tn td tk tl ta t5 : Tok} {o5 o6 c1 : Option Value} {n dd Ml a : Int} {j c : Nat} {ma ka w : Nat} {sv na : Int} {ns : List Int} {ks : List Nat} {fls rls : List Value} {as szs : List Int} {ρ : Led} {Q : Flow → Shared → Prop} (he : EnvIs env (lawSc G.K) L [("plain", pn), ("filters", fi), ("sums", su), ("gone", go), ("places", pl), ("row", rw'), ("much", mu), ("rows", rs), ("at", at'), ("sizes", si), ("salts", sa), ("wanted", wa)] (.ref 492)) (hroom : A.depth + 20 < recursionLimit) (hun : A.units + 1000 < cLine) (hh : A.handled = none) (hg : 401 ∈ G.gtabs) (hgp : G.gensP = AllBare) (hfl : Holds G ρ fl (isLst fls)) (hsz : Holds G ρ sz (isInts szs)) (hda : Holds G ρ da isAny) (hfa : IsHash G ρ fa sv) (e1 : fls[j]? = some (.ref xa)) (e2 : rls[j]? = some (.ref ra)) (e3 : szs[j]? = some (ma : Int)) (e6 : as[j]? = some na) (hj : j < 2) (hm : ma = ns.length) (hm0 : 0 < ma) (hm1 : ma ≤ 1000) (hka : 0 < ka) (hk1 : ka ≤ ma) (hkl : ks.length = ka) (hkm : (placesOf (c : Int) sv ka).map (fun v => v.fmod ma) = ks.map (fun (j : Nat) => (j : Int))) (hklt : ∀ j ∈ ks, j < ma) (hnd : ks.Nodup) (ha0 : 0 ≤ a) (ha1 : a ≤ 4294967295) (hns : ∀ v ∈ ns, 0 ≤ v ∧ v ≤ U32) (hna : na ≤ 9223372036854775808) (hMl : least (ks.map fun j => ns.getD j 0) Ml)
    (R : Rep G ((L, isNs [("script", some (.ref sc)), ("n", some (Value.int n tn)), ("numbers", some (.ref nu)), ("bits", some bv), ("rounds", some (.ref rd)), ("added", some (.ref ad)), ("deed", some (Value.int dd td)), ("key", some (Value.str ⟨#[c]⟩ tk)), ("one", some (.ref xa)), ("least", some (Value.int Ml tl)), ("told", o5), ("due", o6), ("alike", none), ("both", none), ("common", none), ("shared", none)]) :: (pn, isCell (none)) :: (fi, isCell (some (.ref fl))) :: (su, isCell (none)) :: (go, isCell (c1)) :: (pl, isCell (some (.ref pls))) :: (rw', isCell (some (.ref ra))) :: (mu, isCell (some (Value.int a ta))) :: (rs, isCell (some (.ref rl))) :: (at', isCell (some (Value.int j t5))) :: (si, isCell (some (.ref sz))) :: (sa, isCell (some (.ref sl))) :: (wa, isCell (some wv)) :: (pls, isInts (ks.map fun (j : Nat) => (j : Int))) :: (xa, obj 445 da (cbf ba fa ma ka w na)) :: (ba, isInts ns) :: (ra, isInts ns) :: (rl, isLst rls) :: (ad, isInts as) :: ρ) s)
    (k : ∀ tv dv g na' ns' ra' s', Same tv dv → ns'.length = ns.length → (∀ v ∈ ns', 0 ≤ v ∧ v ≤ U32) → na' ≤ max na 0 + 4294967296 → Rep G ((L, isNs [("script", some (.ref sc)), ("n", some (Value.int n tn)), ("numbers", some (.ref nu)), ("bits", some bv), ("rounds", some (.ref rd)), ("added", some (.ref ad)), ("deed", some (Value.int dd td)), ("key", some (Value.str ⟨#[c]⟩ tk)), ("one", some (.ref xa)), ("least", some (Value.int Ml tl)), ("told", some tv), ("due", some dv), ("alike", none), ("both", none), ("common", none), ("shared", none)]) :: (pn, isCell (none)) :: (fi, isCell (some (.ref fl))) :: (su, isCell (none)) :: (go, isCell (g)) :: (pl, isCell (some (.ref pls))) :: (rw', isCell (some (.ref ra))) :: (mu, isCell (some (Value.int a ta))) :: (rs, isCell (some (.ref rl))) :: (at', isCell (some (Value.int j t5))) :: (si, isCell (some (.ref sz))) :: (sa, isCell (some (.ref sl))) :: (wa, isCell (some wv)) :: (pls, isInts (ks.map fun (j : Nat) => (j : Int))) :: (xa, obj 445 da (cbf ba fa ma ka w na')) :: (ba, isInts ns') :: (ra', isInts ns') :: (rl, isLst (rls.set j (.ref ra'))) :: (ad, isInts (as.set j na')) :: ρ) s' → Q .next s') :
    wpAny (model G.prog G.w) A (execs (br G.K 3) env) Q E s := by
  conv at he => arg 2; whnf
  refine wpAny_execs_cons ?_
  walk_at "b_go"
  refine x_callM (sp_clear (m := (ma : Int)) (Rep.sel (by assumption) (by walk_at "b_sel")) (by walk_at "b_mem") (by omega) hh (by omega) (by omega) (fun s₁ R₁ => ?_))
  walk_at "b_go"
  refine w_List ?_
  walk_at "b_go"
  refine ⟨by show 1 ≤ sizeLine; decide, _, by assumption, fun l₀ s₂ R₂ => ?_⟩
  walk_at "b_go"
  refine w_itemI (n := (ma : Int)) (by assumption) (by walk_at "b_mem") (by omega) e3 (by omega) (fun _ => ?_)
  refine w_mulL (l := l₀) (by assumption) (by walk_at "b_mem") (by omega) (by omega) (fun r' s₃ R₃ => ?_)
  rw [Int.toNat_natCast, hm] at R₃
  walk_at "b_go"
  have hjr : j < rls.length := (List.getElem?_eq_some_iff.mp e2).1
  have hja : j < as.length := (List.getElem?_eq_some_iff.mp e6).1
  refine w_setItem (by assumption) (by walk_at "b_upd") (by omega) (by omega) (by omega) (fun s₄ R₄ => ?_)
  walk_at "b_go"
  refine w_setItemI (by assumption) (by walk_at "b_upd") (by omega) (by omega) (by omega) (fun s₅ R₅ => ?_)
  rw [Int.toNat_natCast] at R₅
  walk_at "b_go"
  have hz : ∀ v ∈ List.replicate ns.length (0 : Int), v = 0 := fun v hv => List.eq_of_mem_replicate hv
  refine x_callM (sp_check (k := ka) (c := c) (ks := ks) (m := ns.length) (ns := List.replicate ns.length 0) (Rep.sel (by assumption) (by walk_at "b_sel")) (by walk_at "b_mem") (hfa.mono (by repeat (first | exact Sub.refl | apply Sub.cons))) hg hgp (by omega) hh rfl (by simp) (by omega) (by omega) hkl.symm hka (by omega) (by rw [← hm]; exact hkm) (fun M tM s₆ hM R₆ => ?_))
  have eM : M = 0 := by
    obtain ⟨q, hq, e⟩ := List.mem_map.mp hM.1
    rw [← e, List.getD_eq_getElem?_getD, List.getElem?_replicate]
    split <;> rfl
  subst eM
  rw [← hm] at R₆
  walk_at "b_go"
  refine k _ _ c1 0 (List.replicate ma 0) r' _ (.inl ⟨0, _, _, rfl, rfl⟩) (by simp [hm]) (fun v hv => by rw [List.eq_of_mem_replicate hv]; decide) (by omega) (Rep.sel (by assumption) (by walk_at "b_sel"))

theorem law_in {L pn fi su go pl rw' mu rs at' si sa wa sc nu sz sl rd fl rl ad xa da ba fa ra pls : Addr} {bv wv : Value} {tn td tk tl ta t5 : Tok} {o5 o6 c1 : Option Value} {n dd Ml a : Int} {j c : Nat} {ma ka w : Nat} {sv na : Int} {ns : List Int} {ks : List Nat} {fls rls : List Value} {as szs : List Int} {ρ : Led} {Q : Flow → Shared → Prop} (he : EnvIs env (lawSc G.K) L [("plain", pn), ("filters", fi), ("sums", su), ("gone", go), ("places", pl), ("row", rw'), ("much", mu), ("rows", rs), ("at", at'), ("sizes", si), ("salts", sa), ("wanted", wa)] (.ref 492)) (hroom : A.depth + 20 < recursionLimit) (hun : A.units + 1000 < cLine) (hh : A.handled = none) (hg : 401 ∈ G.gtabs) (hgp : G.gensP = AllBare) (hfl : Holds G ρ fl (isLst fls)) (hsz : Holds G ρ sz (isInts szs)) (hda : Holds G ρ da isAny) (hfa : IsHash G ρ fa sv) (e1 : fls[j]? = some (.ref xa)) (e2 : rls[j]? = some (.ref ra)) (e3 : szs[j]? = some (ma : Int)) (e6 : as[j]? = some na) (hj : j < 2) (hm : ma = ns.length) (hm0 : 0 < ma) (hm1 : ma ≤ 1000) (hka : 0 < ka) (hk1 : ka ≤ ma) (hkl : ks.length = ka) (hkm : (placesOf (c : Int) sv ka).map (fun v => v.fmod ma) = ks.map (fun (j : Nat) => (j : Int))) (hklt : ∀ j ∈ ks, j < ma) (hnd : ks.Nodup) (ha0 : 0 ≤ a) (ha1 : a ≤ 4294967295) (hns : ∀ v ∈ ns, 0 ≤ v ∧ v ≤ U32) (hna : na ≤ 9223372036854775808) (hMl : least (ks.map fun j => ns.getD j 0) Ml)
    (R : Rep G ((L, isNs [("script", some (.ref sc)), ("n", some (Value.int n tn)), ("numbers", some (.ref nu)), ("bits", some bv), ("rounds", some (.ref rd)), ("added", some (.ref ad)), ("deed", some (Value.int dd td)), ("key", some (Value.str ⟨#[c]⟩ tk)), ("one", some (.ref xa)), ("least", some (Value.int Ml tl)), ("told", o5), ("due", o6), ("alike", none), ("both", none), ("common", none), ("shared", none)]) :: (pn, isCell (none)) :: (fi, isCell (some (.ref fl))) :: (su, isCell (none)) :: (go, isCell (c1)) :: (pl, isCell (some (.ref pls))) :: (rw', isCell (some (.ref ra))) :: (mu, isCell (some (Value.int a ta))) :: (rs, isCell (some (.ref rl))) :: (at', isCell (some (Value.int j t5))) :: (si, isCell (some (.ref sz))) :: (sa, isCell (some (.ref sl))) :: (wa, isCell (some wv)) :: (pls, isInts (ks.map fun (j : Nat) => (j : Int))) :: (xa, obj 445 da (cbf ba fa ma ka w na)) :: (ba, isInts ns) :: (ra, isInts ns) :: (rl, isLst rls) :: (ad, isInts as) :: ρ) s)
    (k : ∀ tv dv g na' ns' ra' s', Same tv dv → ns'.length = ns.length → (∀ v ∈ ns', 0 ≤ v ∧ v ≤ U32) → na' ≤ max na 0 + 4294967296 → Rep G ((L, isNs [("script", some (.ref sc)), ("n", some (Value.int n tn)), ("numbers", some (.ref nu)), ("bits", some bv), ("rounds", some (.ref rd)), ("added", some (.ref ad)), ("deed", some (Value.int dd td)), ("key", some (Value.str ⟨#[c]⟩ tk)), ("one", some (.ref xa)), ("least", some (Value.int Ml tl)), ("told", some tv), ("due", some dv), ("alike", none), ("both", none), ("common", none), ("shared", none)]) :: (pn, isCell (none)) :: (fi, isCell (some (.ref fl))) :: (su, isCell (none)) :: (go, isCell (g)) :: (pl, isCell (some (.ref pls))) :: (rw', isCell (some (.ref ra))) :: (mu, isCell (some (Value.int a ta))) :: (rs, isCell (some (.ref rl))) :: (at', isCell (some (Value.int j t5))) :: (si, isCell (some (.ref sz))) :: (sa, isCell (some (.ref sl))) :: (wa, isCell (some wv)) :: (pls, isInts (ks.map fun (j : Nat) => (j : Int))) :: (xa, obj 445 da (cbf ba fa ma ka w na')) :: (ba, isInts ns') :: (ra', isInts ns') :: (rl, isLst (rls.set j (.ref ra'))) :: (ad, isInts (as.set j na')) :: ρ) s' → Q .next s') :
    wpAny (model G.prog G.w) A (execs (br G.K 4) env) Q E s := by
  conv at he => arg 2; whnf
  refine wpAny_execs_cons ?_
  walk_at "b_go"
  refine w_inM (x := xa) (C := 445) (f := 145) (by assumption) (by walk_at "b_mem") (by walk_at "b_mem") (by kernel_rfl) (by kernel_rfl) ?_
  refine x_callM (sp_contains (k := ka) (c := c) (ks := ks) (Rep.sel (by assumption) (by walk_at "b_sel")) (by walk_at "b_mem") (hfa.mono (by repeat (first | exact Sub.refl | apply Sub.cons))) hg hgp (by omega) hh rfl hm hm0 hm1 hkl.symm hka (by omega) hkm (fun M tM s₁ hM R₁ => ?_))
  have eM := least_uniq hM hMl
  subst eM
  have hM0 : 0 ≤ M := by
    obtain ⟨q, hq, e⟩ := List.mem_map.mp hM.1
    rw [← e, List.getD_eq_getElem?_getD]
    cases e' : ns[q]? with
    | none => exact Int.le_refl 0
    | some x => exact (hns x (List.mem_of_getElem? e')).1
  have hb : (M != 0) = decide (0 < M) := by
    by_cases q : M = 0
    · subst q; rfl
    · have : 0 < M := by omega
      simp [q, this]
  walk_at "b_go"
  refine k (.bool (M != 0)) (.bool (decide (0 < M))) c1 na ns ra _ (.inr ⟨_, congrArg Value.bool hb, rfl⟩) rfl hns (by omega) ?_
  rw [set_same e2, set_same e6]
  exact Rep.sel (by assumption) (by walk_at "b_sel")
end
end Bl


namespace Bl
section
variable {G : Gd hd.heap_39} {A : Around} {E : Value → Shared → Prop} {σ τ : Led} {s : Shared} {env : Env}

theorem subAt_in {g : Int} {j : Nat} : ∀ {ks : List Nat} {ns : List Int}, j ∈ ks → ks.Nodup → j < ns.length → (subAt ns ks g).getD j 0 = if ns.getD j 0 < U32 then ns.getD j 0 - g else ns.getD j 0
  | k :: ks, ns, h, hn, hl => by
    have hn' := List.nodup_cons.mp hn
    show (subAt (if _ then _ else _) ks g).getD j 0 = _
    rcases List.mem_cons.mp h with rfl | h
    · rw [subAt_get hn'.1]
      split <;> rename_i q
      · simp [List.getD_eq_getElem?_getD, hl]
      · rfl
    · have hne : k ≠ j := fun q => hn'.1 (q ▸ h)
      split <;> rename_i q
      · rw [subAt_in h hn'.2 (by simpa using hl)]
        simp [List.getD_eq_getElem?_getD, List.getElem?_set_ne hne]
      · exact subAt_in h hn'.2 hl
theorem subAt_row {g : Int} {ks : List Nat} {ns : List Int} (hn : ks.Nodup) : (List.range ns.length).map (fun i => if i ∈ ks ∧ ns.getD i 0 < U32 then ns.getD i 0 - g else ns.getD i 0) = subAt ns ks g := by
  refine List.ext_getElem? fun i => ?_
  rw [List.getElem?_map]
  by_cases hi : i < ns.length
  · rw [List.getElem?_range hi, get_getD (l := subAt ns ks g) (by rw [subAt_len]; exact hi)]
    simp only [Option.map_some]
    congr 1
    by_cases hk : i ∈ ks
    · rw [subAt_in hk hn hi]
      by_cases hu : ns.getD i 0 < U32
      · rw [if_pos ⟨hk, hu⟩, if_pos hu]
      · rw [if_neg (fun q => hu q.2), if_neg hu]
    · rw [if_neg (fun q => hk q.1), subAt_get hk]
  · rw [List.getElem?_eq_none (by simp; omega), List.getElem?_eq_none (by rw [subAt_len]; omega)]; rfl
theorem subAt_bd {g : Int} {ks : List Nat} {ns : List Int} (hg0 : 0 ≤ g) (hn : ks.Nodup) (hl : ∀ j ∈ ks, j < ns.length) (hge : ∀ j ∈ ks, g ≤ ns.getD j 0) (h : ∀ v ∈ ns, 0 ≤ v ∧ v ≤ U32) : ∀ v ∈ subAt ns ks g, 0 ≤ v ∧ v ≤ U32 := fun v hv => by
  rw [← subAt_row hn] at hv
  obtain ⟨i, hi, rfl⟩ := List.mem_map.mp hv
  have hi := List.mem_range.mp hi
  have hb := h _ (List.mem_of_getElem? (get_getD hi))
  split
  · rename_i q
    have := hge i q.1
    omega
  · exact hb
theorem law_rem {L pn fi su go pl rw' mu rs at' si sa wa sc nu sz sl rd fl rl ad xa da ba fa ra pls : Addr} {bv wv : Value} {tn td tk tl ta t5 : Tok} {o5 o6 c1 : Option Value} {n dd Ml a : Int} {j c : Nat} {ma ka w : Nat} {sv na : Int} {ns : List Int} {ks : List Nat} {fls rls : List Value} {as szs : List Int} {ρ : Led} {Q : Flow → Shared → Prop} (hdd : dd = 3 ∨ dd = 4) (he : EnvIs env (lawSc G.K) L [("plain", pn), ("filters", fi), ("sums", su), ("gone", go), ("places", pl), ("row", rw'), ("much", mu), ("rows", rs), ("at", at'), ("sizes", si), ("salts", sa), ("wanted", wa)] (.ref 492)) (hroom : A.depth + 20 < recursionLimit) (hun : A.units + 1000 < cLine) (hh : A.handled = none) (hg : 401 ∈ G.gtabs) (hgp : G.gensP = AllBare) (hfl : Holds G ρ fl (isLst fls)) (hsz : Holds G ρ sz (isInts szs)) (hda : Holds G ρ da isAny) (hfa : IsHash G ρ fa sv) (e1 : fls[j]? = some (.ref xa)) (e2 : rls[j]? = some (.ref ra)) (e3 : szs[j]? = some (ma : Int)) (e6 : as[j]? = some na) (hj : j < 2) (hm : ma = ns.length) (hm0 : 0 < ma) (hm1 : ma ≤ 1000) (hka : 0 < ka) (hk1 : ka ≤ ma) (hkl : ks.length = ka) (hkm : (placesOf (c : Int) sv ka).map (fun v => v.fmod ma) = ks.map (fun (j : Nat) => (j : Int))) (hklt : ∀ j ∈ ks, j < ma) (hnd : ks.Nodup) (ha0 : 0 ≤ a) (ha1 : a ≤ 4294967295) (hns : ∀ v ∈ ns, 0 ≤ v ∧ v ≤ U32) (hna : na ≤ 9223372036854775808) (hMl : least (ks.map fun j => ns.getD j 0) Ml)
    (R : Rep G ((L, isNs [("script", some (.ref sc)), ("n", some (Value.int n tn)), ("numbers", some (.ref nu)), ("bits", some bv), ("rounds", some (.ref rd)), ("added", some (.ref ad)), ("deed", some (Value.int dd td)), ("key", some (Value.str ⟨#[c]⟩ tk)), ("one", some (.ref xa)), ("least", some (Value.int Ml tl)), ("told", o5), ("due", o6), ("alike", none), ("both", none), ("common", none), ("shared", none)]) :: (pn, isCell (none)) :: (fi, isCell (some (.ref fl))) :: (su, isCell (none)) :: (go, isCell (c1)) :: (pl, isCell (some (.ref pls))) :: (rw', isCell (some (.ref ra))) :: (mu, isCell (some (Value.int a ta))) :: (rs, isCell (some (.ref rl))) :: (at', isCell (some (Value.int j t5))) :: (si, isCell (some (.ref sz))) :: (sa, isCell (some (.ref sl))) :: (wa, isCell (some wv)) :: (pls, isInts (ks.map fun (j : Nat) => (j : Int))) :: (xa, obj 445 da (cbf ba fa ma ka w na)) :: (ba, isInts ns) :: (ra, isInts ns) :: (rl, isLst rls) :: (ad, isInts as) :: ρ) s)
    (k : ∀ tv dv g na' ns' ra' s', Same tv dv → ns'.length = ns.length → (∀ v ∈ ns', 0 ≤ v ∧ v ≤ U32) → na' ≤ max na 0 + 4294967296 → Rep G ((L, isNs [("script", some (.ref sc)), ("n", some (Value.int n tn)), ("numbers", some (.ref nu)), ("bits", some bv), ("rounds", some (.ref rd)), ("added", some (.ref ad)), ("deed", some (Value.int dd td)), ("key", some (Value.str ⟨#[c]⟩ tk)), ("one", some (.ref xa)), ("least", some (Value.int Ml tl)), ("told", some tv), ("due", some dv), ("alike", none), ("both", none), ("common", none), ("shared", none)]) :: (pn, isCell (none)) :: (fi, isCell (some (.ref fl))) :: (su, isCell (none)) :: (go, isCell (g)) :: (pl, isCell (some (.ref pls))) :: (rw', isCell (some (.ref ra))) :: (mu, isCell (some (Value.int a ta))) :: (rs, isCell (some (.ref rl))) :: (at', isCell (some (Value.int j t5))) :: (si, isCell (some (.ref sz))) :: (sa, isCell (some (.ref sl))) :: (wa, isCell (some wv)) :: (pls, isInts (ks.map fun (j : Nat) => (j : Int))) :: (xa, obj 445 da (cbf ba fa ma ka w na')) :: (ba, isInts ns') :: (ra', isInts ns') :: (rl, isLst (rls.set j (.ref ra'))) :: (ad, isInts (as.set j na')) :: ρ) s' → Q .next s') :
    wpAny (model G.prog G.w) A (execs (br G.K 2) env) Q E s := by
  conv at he => arg 2; whnf
  refine wpAny_execs_cons ?_
  walk_at "b_st"
  have hj2 : ∀ j ∈ ks, j < ns.length := fun j hj' => by have := hklt j hj'; omega
  have hMl0 : 0 ≤ Ml := by
    obtain ⟨q, hq, e⟩ := List.mem_map.mp hMl.1
    rw [← e]
    exact (hns _ (List.mem_of_getElem? (get_getD (hj2 q hq)))).1
  refine wpAny_mono (Q := fun v s' => ∃ tr ns' na' r, v = .int r tr ∧ ((Ml = U32 ∨ Ml = 0) ∧ ns' = ns ∧ na' = na ∧ r = Ml ∨ (Ml ≠ U32 ∧ Ml ≠ 0) ∧ ns' = subAt ns ks (min a Ml) ∧ na' = na - min a Ml ∧ r = Ml - min a Ml) ∧ Rep G ((xa, obj 445 da (cbf ba fa ma ka w na')) :: (ba, isInts ns') :: (L, isNs [("script", some (.ref sc)), ("n", some (Value.int n tn)), ("numbers", some (.ref nu)), ("bits", some bv), ("rounds", some (.ref rd)), ("added", some (.ref ad)), ("deed", some (Value.int dd td)), ("key", some (Value.str ⟨#[c]⟩ tk)), ("one", some (.ref xa)), ("least", some (Value.int Ml tl)), ("told", o5), ("due", o6), ("alike", none), ("both", none), ("common", none), ("shared", none)]) :: (pn, isCell (none)) :: (fi, isCell (some (.ref fl))) :: (su, isCell (none)) :: (go, isCell (c1)) :: (pl, isCell (some (.ref pls))) :: (rw', isCell (some (.ref ra))) :: (mu, isCell (some (Value.int a ta))) :: (rs, isCell (some (.ref rl))) :: (at', isCell (some (Value.int j t5))) :: (si, isCell (some (.ref sz))) :: (sa, isCell (some (.ref sl))) :: (wa, isCell (some wv)) :: (pls, isInts (ks.map fun (j : Nat) => (j : Int))) :: (ra, isInts ns) :: (rl, isLst rls) :: (ad, isInts as) :: ρ) s') ?_ ?_ (fun _ _ x => x)
  · walk_at "b_go"
    refine ite_beq (fun q3 => ?_) (fun q3 => ?_)
    · walk_at "b_go"
      refine x_callM (sp_remove (k := ka) (c := c) (ks := ks) (Rep.sel (by assumption) (by walk_at "b_sel")) (by walk_at "b_mem") (hfa.mono (by repeat (first | exact Sub.refl | apply Sub.cons))) (by omega) hh rfl hm hm0 hm1 hkl.symm hka (by omega) hkm hnd ha0 hns (fun M tM s₁ ns' na' r hM hr R₁ => ?_))
      have eM := least_uniq hM hMl
      subst eM
      exact ⟨tM, ns', na', r, rfl, hr, R₁.sel (by walk_at "b_sel")⟩
    · walk_at "b_go"
      refine x_callM (sp_hashes (c := c) (salt := sv) (k := ka) (by assumption) (by walk_at "b_mem") (by walk_at "b_mem") (hfa.mono (by repeat (first | exact Sub.refl | apply Sub.cons))) (by omega) hh rfl (by omega) (fun D s₁ R₁ => ?_))
      walk_at "b_go"
      refine x_callM (sp_remove_alt (D := D) (k := ka) (ks := ks) (hs := placesOf c sv ka) (Rep.sel (by assumption) (by walk_at "b_sel")) (by walk_at "b_mem") (by walk_at "b_mem") (by omega) hh hm hm0 hm1 hkl.symm hka (by omega) hkm hnd ha0 hns (fun M tM s₂ ns' na' r hM hr R₂ => ?_))
      have eM := least_uniq hM hMl
      subst eM
      exact ⟨tM, ns', na', r, rfl, hr, R₂.sel (by walk_at "b_sel")⟩
  rintro v s₁ ⟨tr, ns', na', r, rfl, hr, R₁⟩
  walk_at "b_go"
  have hjr : j < rls.length := (List.getElem?_eq_some_iff.mp e2).1
  have hja : j < as.length := (List.getElem?_eq_some_iff.mp e6).1
  rcases hr with ⟨hM, e7, e8, e9⟩ | ⟨⟨h1, h2⟩, e7, e8, e9⟩
  · have e7' := e7.symm
    have e8' := e8.symm
    have e9' := e9.symm
    subst e7' e8' e9'
    refine ite_bne (fun q0 => ?_) (fun q0 => ?_)
    · walk_at "b_go"
      refine ite_bne (fun q1 => ?_) (fun q1 => ?_)
      · exact absurd hM (by show ¬ (Ml = 4294967295 ∨ Ml = 0); omega)
      walk_at "b_go"
      refine k _ _ c1 na ns ra _ (.inl ⟨Ml, tr, tl, rfl, rfl⟩) rfl hns (by omega) ?_
      rw [set_same e2, set_same e6]
      exact Rep.sel (by assumption) (by walk_at "b_sel")
    · walk_at "b_go"
      refine k _ _ c1 na ns ra _ (.inl ⟨Ml, tr, tl, rfl, rfl⟩) rfl hns (by omega) ?_
      rw [set_same e2, set_same e6]
      exact Rep.sel (by assumption) (by walk_at "b_sel")
  subst e7 e8 e9
  refine ite_bne (fun q0 => ?_) (fun q0 => absurd q0 h2)
  walk_at "b_go"
  refine ite_bne (fun q1 => ?_) (fun q1 => absurd q1 h1)
  walk_at "b_go"
  have hg0 : 0 ≤ min a Ml := by omega
  have hgl : ∀ j ∈ ks, min a Ml ≤ ns.getD j 0 := fun j hj' => by have := hMl.2 _ (List.mem_map_of_mem hj'); omega
  refine w_ListComp (fun o => [(Str.ofString ".0", none), (Str.ofString "place", o)]) none hh he rfl ?_
  walk_at "b_go"
  refine w_itemI (n := (ma : Int)) (by assumption) (by walk_at "b_mem") (by omega) e3 (by omega) (fun _ => ?_)
  walk_at "b_go"
  refine w_iterRange (n := ma) (by assumption) (by walk_at "b_mem") (by omega) (by omega) (by omega) (fun it s₂ hn₂ R₂ => ?_)
  refine ⟨it, _, ma, _, _, _, fun i acc σ' => (∃ tg td2, σ' = (xa, obj 445 da (cbf ba fa ma ka w (na - min a Ml))) :: (ba, isInts (subAt ns ks (min a Ml))) :: (L, isNs [("script", some (.ref sc)), ("n", some (Value.int n tn)), ("numbers", some (.ref nu)), ("bits", some bv), ("rounds", some (.ref rd)), ("added", some (.ref ad)), ("deed", some (Value.int dd td)), ("key", some (Value.str ⟨#[c]⟩ tk)), ("one", some (.ref xa)), ("least", some (Value.int Ml tl)), ("told", some (Value.int (Ml - min a Ml) tr)), ("due", some (Value.int Ml td2)), ("alike", none), ("both", none), ("common", none), ("shared", none)]) :: (pn, isCell (none)) :: (fi, isCell (some (.ref fl))) :: (su, isCell (none)) :: (go, isCell (some (Value.int (min a Ml) tg))) :: (pl, isCell (some (.ref pls))) :: (rw', isCell (some (.ref ra))) :: (mu, isCell (some (Value.int a ta))) :: (rs, isCell (some (.ref rl))) :: (at', isCell (some (Value.int j t5))) :: (si, isCell (some (.ref sz))) :: (sa, isCell (some (.ref sl))) :: (wa, isCell (some wv)) :: (pls, isInts (ks.map fun (j : Nat) => (j : Int))) :: (ra, isInts ns) :: (rl, isLst rls) :: (ad, isInts as) :: ρ) ∧ IntsAre acc ((List.range i).map (fun i => if i ∈ ks ∧ ns.getD i 0 < U32 then ns.getD i 0 - min a Ml else ns.getD i 0)), rfl, Iter.range hn₂ _ _ _, R₂.sel (by walk_at "b_sel"), ⟨⟨_, _, rfl⟩, .nil⟩, fun _ _ _ _ => trivial, by rw [sizeLine_eq]; omega, ?_, ?_⟩
  · rintro E' C D' cenv o i acc σ' s₃ v' he' hi ⟨t', rfl⟩ ⟨⟨tg, td2, rfl⟩, hacc⟩ R₃
    have hti : (0 + (i : Int) * 1) = i := by omega
    rw [hti] at *
    walk_at "b_go"
    refine w_inI (l := pls) (ns := ks.map fun (j : Nat) => (j : Int)) (by assumption) (by walk_at "b_mem") ?_
    walk_at "b_go"
    refine ite_dec (fun hin => ?_) (fun hin => ?_)
    · have hin' : i ∈ ks := by obtain ⟨q, hq, e⟩ := List.mem_map.mp hin; have : q = i := by omega
                               rw [← this]; exact hq
      walk_at "b_go"
      refine w_itemI (n := ns.getD i 0) (by assumption) (by walk_at "b_mem") (by omega) (get_getD (by simp; omega)) (by omega) (fun _ => ?_)
      walk_at "b_go"
      refine ite_dec (fun hlt => ?_) (fun hlt => ?_)
      · walk_at "b_go"
        refine w_itemI (n := ns.getD i 0) (by assumption) (by walk_at "b_mem") (by omega) (get_getD (by simp; omega)) (by omega) (fun _ => ?_)
        walk_at "b_go"
        refine ⟨_, _, by assumption, ⟨_, _, rfl⟩, ?_⟩
        rw [List.range_succ, List.map_append]
        simp only [List.map_cons, List.map_nil]
        rw [if_pos ⟨hin', hlt⟩]
        exact ints_snoc hacc _ _
      · walk_at "b_go"
        refine w_itemI (n := ns.getD i 0) (by assumption) (by walk_at "b_mem") (by omega) (get_getD (by simp; omega)) (by omega) (fun _ => ?_)
        refine ⟨_, _, by assumption, ⟨_, _, rfl⟩, ?_⟩
        rw [List.range_succ, List.map_append]
        simp only [List.map_cons, List.map_nil]
        rw [if_neg (fun q => hlt q.2)]
        exact ints_snoc hacc _ _
    · have hin' : ¬ i ∈ ks := fun q => hin (List.mem_map.mpr ⟨i, q, rfl⟩)
      walk_at "b_go"
      refine w_itemI (n := ns.getD i 0) (by assumption) (by walk_at "b_mem") (by omega) (get_getD (by simp; omega)) (by omega) (fun _ => ?_)
      refine ⟨_, _, by assumption, ⟨_, _, rfl⟩, ?_⟩
      rw [List.range_succ, List.map_append]
      simp only [List.map_cons, List.map_nil]
      rw [if_neg (fun q => hin' q.1)]
      exact ints_snoc hacc _ _
  · rintro r' acc σ' s₃ ⟨⟨tg, td2, rfl⟩, hacc⟩ R₃
    rw [hm, subAt_row hnd] at hacc
    replace R₃ := R₃.toInts hacc
    walk_at "b_go"
    refine w_setItem (by assumption) (by walk_at "b_upd") (by omega) (by omega) (by omega) (fun s₄ R₄ => ?_)
    walk_at "b_go"
    refine w_itemI (n := na) (by assumption) (by walk_at "b_mem") (by omega) e6 (by omega) (fun _ => ?_)
    walk_at "b_go"
    refine w_setItemI (by assumption) (by walk_at "b_upd") (by omega) (by omega) (by omega) (fun s₅ R₅ => ?_)
    rw [Int.toNat_natCast] at R₅
    walk_at "b_go"
    refine k _ _ _ (na - min a Ml) (subAt ns ks (min a Ml)) r' _ (.inl ⟨Ml - min a Ml, _, _, rfl, rfl⟩) subAt_len (subAt_bd hg0 hnd hj2 hgl hns) (by omega) (Rep.sel (by assumption) (by walk_at "b_sel"))
end
end Bl


namespace Bl
section
variable {G : Gd hd.heap_39} {A : Around} {E : Value → Shared → Prop} {σ τ : Led} {s : Shared} {env : Env}

theorem law_deed {L pn fi su go pl rw' mu rs at' si sa wa sc nu sz sl rd fl rl ad xa da ba fa ra pls : Addr} {bv wv : Value} {tn td tk tl ta t5 : Tok} {o5 o6 c1 : Option Value} {n dd Ml a : Int} {j c : Nat} {ma ka w : Nat} {sv na : Int} {ns : List Int} {ks : List Nat} {fls rls : List Value} {as szs : List Int} {ρ : Led} {Q : Flow → Shared → Prop} (hdd : 0 ≤ dd ∧ dd < 6) (he : EnvIs env (lawSc G.K) L [("plain", pn), ("filters", fi), ("sums", su), ("gone", go), ("places", pl), ("row", rw'), ("much", mu), ("rows", rs), ("at", at'), ("sizes", si), ("salts", sa), ("wanted", wa)] (.ref 492)) (hroom : A.depth + 20 < recursionLimit) (hun : A.units + 1000 < cLine) (hh : A.handled = none) (hg : 401 ∈ G.gtabs) (hgp : G.gensP = AllBare) (hfl : Holds G ρ fl (isLst fls)) (hsz : Holds G ρ sz (isInts szs)) (hda : Holds G ρ da isAny) (hfa : IsHash G ρ fa sv) (e1 : fls[j]? = some (.ref xa)) (e2 : rls[j]? = some (.ref ra)) (e3 : szs[j]? = some (ma : Int)) (e6 : as[j]? = some na) (hj : j < 2) (hm : ma = ns.length) (hm0 : 0 < ma) (hm1 : ma ≤ 1000) (hka : 0 < ka) (hk1 : ka ≤ ma) (hkl : ks.length = ka) (hkm : (placesOf (c : Int) sv ka).map (fun v => v.fmod ma) = ks.map (fun (j : Nat) => (j : Int))) (hklt : ∀ j ∈ ks, j < ma) (hnd : ks.Nodup) (ha0 : 0 ≤ a) (ha1 : a ≤ 4294967295) (hns : ∀ v ∈ ns, 0 ≤ v ∧ v ≤ U32) (hna : na ≤ 9223372036854775808) (hMl : least (ks.map fun j => ns.getD j 0) Ml)
    (R : Rep G ((L, isNs [("script", some (.ref sc)), ("n", some (Value.int n tn)), ("numbers", some (.ref nu)), ("bits", some bv), ("rounds", some (.ref rd)), ("added", some (.ref ad)), ("deed", some (Value.int dd td)), ("key", some (Value.str ⟨#[c]⟩ tk)), ("one", some (.ref xa)), ("least", some (Value.int Ml tl)), ("told", o5), ("due", o6), ("alike", none), ("both", none), ("common", none), ("shared", none)]) :: (pn, isCell (none)) :: (fi, isCell (some (.ref fl))) :: (su, isCell (none)) :: (go, isCell (c1)) :: (pl, isCell (some (.ref pls))) :: (rw', isCell (some (.ref ra))) :: (mu, isCell (some (Value.int a ta))) :: (rs, isCell (some (.ref rl))) :: (at', isCell (some (Value.int j t5))) :: (si, isCell (some (.ref sz))) :: (sa, isCell (some (.ref sl))) :: (wa, isCell (some wv)) :: (pls, isInts (ks.map fun (j : Nat) => (j : Int))) :: (xa, obj 445 da (cbf ba fa ma ka w na)) :: (ba, isInts ns) :: (ra, isInts ns) :: (rl, isLst rls) :: (ad, isInts as) :: ρ) s)
    (k : ∀ tv dv g na' ns' ra' s', Same tv dv → ns'.length = ns.length → (∀ v ∈ ns', 0 ≤ v ∧ v ≤ U32) → na' ≤ max na 0 + 4294967296 → Rep G ((L, isNs [("script", some (.ref sc)), ("n", some (Value.int n tn)), ("numbers", some (.ref nu)), ("bits", some bv), ("rounds", some (.ref rd)), ("added", some (.ref ad)), ("deed", some (Value.int dd td)), ("key", some (Value.str ⟨#[c]⟩ tk)), ("one", some (.ref xa)), ("least", some (Value.int Ml tl)), ("told", some tv), ("due", some dv), ("alike", none), ("both", none), ("common", none), ("shared", none)]) :: (pn, isCell (none)) :: (fi, isCell (some (.ref fl))) :: (su, isCell (none)) :: (go, isCell (g)) :: (pl, isCell (some (.ref pls))) :: (rw', isCell (some (.ref ra))) :: (mu, isCell (some (Value.int a ta))) :: (rs, isCell (some (.ref rl))) :: (at', isCell (some (Value.int j t5))) :: (si, isCell (some (.ref sz))) :: (sa, isCell (some (.ref sl))) :: (wa, isCell (some wv)) :: (pls, isInts (ks.map fun (j : Nat) => (j : Int))) :: (xa, obj 445 da (cbf ba fa ma ka w na')) :: (ba, isInts ns') :: (ra', isInts ns') :: (rl, isLst (rls.set j (.ref ra'))) :: (ad, isInts (as.set j na')) :: ρ) s' → wpAny (model G.prog G.w) A (execs ((forB G.K).drop 9) env) Q E s') :
    wpAny (model G.prog G.w) A (execs ((forB G.K).drop 8) env) Q E s := by
  have he0 := he
  conv at he => arg 2; whnf
  refine wpAny_execs_cons ?_
  walk_at "b_go"
  refine ite_dec (fun h1 => ?_) (fun h1 => ?_)
  · exact law_add he0 hroom hun hh hg hgp hfl hsz hda hfa e1 e2 e3 e6 hj hm hm0 hm1 hka hk1 hkl hkm hklt hnd ha0 ha1 hns hna hMl (by assumption) (fun tv dv g na' ns' ra' s' a1 a2 a3 a4 r => by exact k tv dv g na' ns' ra' s' a1 a2 a3 a4 r)
  walk_at "b_go"
  refine ite_beq (fun h2 => ?_) (fun h2 => ?_)
  · exact law_chk he0 hroom hun hh hg hgp hfl hsz hda hfa e1 e2 e3 e6 hj hm hm0 hm1 hka hk1 hkl hkm hklt hnd ha0 ha1 hns hna hMl (by assumption) (fun tv dv g na' ns' ra' s' a1 a2 a3 a4 r => by show wpAny _ _ (execs [] _) _ _ _; refine wpAny_execs_nil ?_; exact k tv dv g na' ns' ra' s' a1 a2 a3 a4 r)
  walk_at "b_go"
  refine ite_beq (fun h3 => ?_) (fun h3 => ?_)
  · walk_at "b_st"
    exact law_rem (.inl h3) he0 hroom hun hh hg hgp hfl hsz hda hfa e1 e2 e3 e6 hj hm hm0 hm1 hka hk1 hkl hkm hklt hnd ha0 ha1 hns hna hMl (by assumption) (fun tv dv g na' ns' ra' s' a1 a2 a3 a4 r => by show wpAny _ _ (execs [] _) _ _ _; refine wpAny_execs_nil ?_; show wpAny _ _ (execs [] _) _ _ _; refine wpAny_execs_nil ?_; exact k tv dv g na' ns' ra' s' a1 a2 a3 a4 r)
  walk_at "b_go"
  refine ite_beq (fun h4 => ?_) (fun h4 => ?_)
  · walk_at "b_st"
    exact law_rem (.inr h4) he0 hroom hun hh hg hgp hfl hsz hda hfa e1 e2 e3 e6 hj hm hm0 hm1 hka hk1 hkl hkm hklt hnd ha0 ha1 hns hna hMl (by assumption) (fun tv dv g na' ns' ra' s' a1 a2 a3 a4 r => by show wpAny _ _ (execs [] _) _ _ _; refine wpAny_execs_nil ?_; show wpAny _ _ (execs [] _) _ _ _; refine wpAny_execs_nil ?_; exact k tv dv g na' ns' ra' s' a1 a2 a3 a4 r)
  walk_at "b_go"
  refine w_fdiv (by assumption) (by decide) (by decide +kernel) (fun _ _ _ => ?_)
  walk_at "b_go"
  refine w_mod (by assumption) (by decide) (fun _ _ _ => ?_)
  walk_at "b_go"
  refine ite_beq (fun h5 => ?_) (fun h5 => ?_)
  · exact law_clr he0 hroom hun hh hg hgp hfl hsz hda hfa e1 e2 e3 e6 hj hm hm0 hm1 hka hk1 hkl hkm hklt hnd ha0 ha1 hns hna hMl (by assumption) (fun tv dv g na' ns' ra' s' a1 a2 a3 a4 r => by show wpAny _ _ (execs [] _) _ _ _; refine wpAny_execs_nil ?_; show wpAny _ _ (execs [] _) _ _ _; refine wpAny_execs_nil ?_; show wpAny _ _ (execs [] _) _ _ _; refine wpAny_execs_nil ?_; exact k tv dv g na' ns' ra' s' a1 a2 a3 a4 r)
  · exact law_in he0 hroom hun hh hg hgp hfl hsz hda hfa e1 e2 e3 e6 hj hm hm0 hm1 hka hk1 hkl hkm hklt hnd ha0 ha1 hns hna hMl (by assumption) (fun tv dv g na' ns' ra' s' a1 a2 a3 a4 r => by show wpAny _ _ (execs [] _) _ _ _; refine wpAny_execs_nil ?_; show wpAny _ _ (execs [] _) _ _ _; refine wpAny_execs_nil ?_; show wpAny _ _ (execs [] _) _ _ _; refine wpAny_execs_nil ?_; exact k tv dv g na' ns' ra' s' a1 a2 a3 a4 r)

theorem law_chk9 {L pn fi su go pl rw' mu rs at' si sa wa sc nu sz sl rd fl rl ad xa da ba fa r0 ra' pls : Addr} {bv wv tv dv : Value} {tn td tk tl ta t5 : Tok} {g : Option Value} {n dd Ml a : Int} {j c : Nat} {ma ka w : Nat} {na' : Int} {ns' : List Int} {ks : List Nat} {rls' : List Value} {as' : List Int} {ρ : Led} {Q : Flow → Shared → Prop}
    (he : EnvIs env (lawSc G.K) L [("plain", pn), ("filters", fi), ("sums", su), ("gone", go), ("places", pl), ("row", rw'), ("much", mu), ("rows", rs), ("at", at'), ("sizes", si), ("salts", sa), ("wanted", wa)] (.ref 492)) (hroom : A.depth + 20 < recursionLimit) (hun : A.units + 1000 < cLine) (hh : A.handled = none) (hda : Holds G ρ da isAny) (hj : j < 2) (e2 : rls'[j]? = some (.ref ra')) (e6 : as'[j]? = some na') (hs : Same tv dv)
    (R : Rep G ((L, isNs [("script", some (.ref sc)), ("n", some (Value.int n tn)), ("numbers", some (.ref nu)), ("bits", some bv), ("rounds", some (.ref rd)), ("added", some (.ref ad)), ("deed", some (Value.int dd td)), ("key", some (Value.str ⟨#[c]⟩ tk)), ("one", some (.ref xa)), ("least", some (Value.int Ml tl)), ("told", some tv), ("due", some dv), ("alike", none), ("both", none), ("common", none), ("shared", none)]) :: (pn, isCell (none)) :: (fi, isCell (some (.ref fl))) :: (su, isCell (none)) :: (go, isCell (g)) :: (pl, isCell (some (.ref pls))) :: (rw', isCell (some (.ref r0))) :: (mu, isCell (some (Value.int a ta))) :: (rs, isCell (some (.ref rl))) :: (at', isCell (some (Value.int j t5))) :: (si, isCell (some (.ref sz))) :: (sa, isCell (some (.ref sl))) :: (wa, isCell (some wv)) :: (pls, isInts (ks.map fun (j : Nat) => (j : Int))) :: (xa, obj 445 da (cbf ba fa ma ka w na')) :: (ba, isInts ns') :: (ra', isInts ns') :: (rl, isLst rls') :: (ad, isInts as') :: ρ) s) (k : ∀ s', Rep G ((L, isNs [("script", some (.ref sc)), ("n", some (Value.int n tn)), ("numbers", some (.ref nu)), ("bits", some bv), ("rounds", some (.ref rd)), ("added", some (.ref ad)), ("deed", some (Value.int dd td)), ("key", some (Value.str ⟨#[c]⟩ tk)), ("one", some (.ref xa)), ("least", some (Value.int Ml tl)), ("told", some tv), ("due", some dv), ("alike", none), ("both", none), ("common", none), ("shared", none)]) :: (pn, isCell (none)) :: (fi, isCell (some (.ref fl))) :: (su, isCell (none)) :: (go, isCell (g)) :: (pl, isCell (some (.ref pls))) :: (rw', isCell (some (.ref r0))) :: (mu, isCell (some (Value.int a ta))) :: (rs, isCell (some (.ref rl))) :: (at', isCell (some (Value.int j t5))) :: (si, isCell (some (.ref sz))) :: (sa, isCell (some (.ref sl))) :: (wa, isCell (some wv)) :: (pls, isInts (ks.map fun (j : Nat) => (j : Int))) :: (xa, obj 445 da (cbf ba fa ma ka w na')) :: (ba, isInts ns') :: (ra', isInts ns') :: (rl, isLst rls') :: (ad, isInts as') :: ρ) s' → Q .next s') :
    wpAny (model G.prog G.w) A (execs ((forB G.K).drop 9) env) Q E s := by
  conv at he => arg 2; whnf
  rcases hs with ⟨x, t6, t7, rfl, rfl⟩ | ⟨x, rfl, rfl⟩
  · refine wpAny_execs_cons ?_
    walk_at "b_go"
    rw [if_neg (by simp)]
    walk_at "b_go"
    refine w_item (v := .ref ra') (by assumption) (by walk_at "b_mem") (by omega) e2 (by omega) ?_
    refine w_neI (l := ba) (l' := ra') (by assumption) (by walk_at "b_mem") (by walk_at "b_mem") (by omega) ?_
    rw [decide_eq_true rfl]
    walk_at "b_go"
    refine w_itemI (n := na') (by assumption) (by walk_at "b_mem") (by omega) e6 (by omega) (fun _ => ?_)
    walk_at "b_go"
    rw [if_neg (by simp)]
    walk_at "b_go"
    exact k _ (by assumption)
  · refine wpAny_execs_cons ?_
    walk_at "b_go"
    refine PyProof.Rows.ne_bool ?_
    walk_at "b_go"
    rw [if_neg (by simp)]
    walk_at "b_go"
    refine w_item (v := .ref ra') (by assumption) (by walk_at "b_mem") (by omega) e2 (by omega) ?_
    refine w_neI (l := ba) (l' := ra') (by assumption) (by walk_at "b_mem") (by walk_at "b_mem") (by omega) ?_
    rw [decide_eq_true rfl]
    walk_at "b_go"
    refine w_itemI (n := na') (by assumption) (by walk_at "b_mem") (by omega) e6 (by omega) (fun _ => ?_)
    walk_at "b_go"
    rw [if_neg (by simp)]
    walk_at "b_go"
    exact k _ (by assumption)
end
end Bl


namespace Bl
section
variable {G : Gd hd.heap_39} {A : Around} {E : Value → Shared → Prop} {σ τ : Led} {s : Shared} {env : Env}
theorem amounts_bd (i : Nat) : 0 ≤ amounts.getD i 0 ∧ amounts.getD i 0 ≤ 4294967295 := by
  by_cases h : i < 8
  · have : ∀ i : Fin 8, 0 ≤ amounts.getD i.val 0 ∧ amounts.getD i.val 0 ≤ 4294967295 := by decide +kernel
    exact this ⟨i, h⟩
  · have e : amounts.getD i 0 = 0 := by rw [List.getD_eq_getElem?_getD, List.getElem?_eq_none (by show 8 ≤ i; omega)]; rfl
    rw [e]; decide
theorem law_B {L pn fi su go pl rw' mu rs at' si sa wa sc nu sz sl rd fl rl ad x0 d0 b0 f0 x1 d1 b1 f1 r00 r10 : Addr} {t1 t2 : Tok} {nl : List Int} {m0 m1 k0 k1 w : Nat} {s0 s1 : Int} {ρ : Led} {Q : Flow → Shared → Prop} (he : EnvIs env (lawSc G.K) L [("plain", pn), ("filters", fi), ("sums", su), ("gone", go), ("places", pl), ("row", rw'), ("much", mu), ("rows", rs), ("at", at'), ("sizes", si), ("salts", sa), ("wanted", wa)] (.ref 492))
    (hK : LawK G ρ d0 d1 rd sz sl nu f0 f1 m0 m1 k0 k1 s0 s1 nl) (R : Rep G ((L, isNs [("script", some (.ref sc)), ("n", none), ("numbers", some (.ref nu)), ("bits", some (Value.int m0 t2)), ("rounds", some (.ref rd)), ("added", some (.ref ad)), ("deed", none), ("key", none), ("one", none), ("least", none), ("told", none), ("due", none), ("alike", none), ("both", none), ("common", none), ("shared", none)]) :: (pn, isCell (none)) :: (fi, isCell (some (.ref fl))) :: (su, isCell (none)) :: (go, isCell (none)) :: (pl, isCell (none)) :: (rw', isCell (none)) :: (mu, isCell (none)) :: (rs, isCell (some (.ref rl))) :: (at', isCell (none)) :: (si, isCell (some (.ref sz))) :: (sa, isCell (some (.ref sl))) :: (wa, isCell (some (Value.int w t1))) :: (x0, obj 445 d0 (cbf b0 f0 m0 k0 w 0)) :: (b0, isInts (List.replicate m0 0)) :: (r00, isInts (List.replicate m0 0)) :: (x1, obj 445 d1 (cbf b1 f1 m1 k1 w 0)) :: (b1, isInts (List.replicate m1 0)) :: (r10, isInts (List.replicate m1 0)) :: (fl, isLst [.ref x0, .ref x1]) :: (rl, isLst [.ref r00, .ref r10]) :: (ad, isInts [0, 0]) :: (490, isTab #[]) :: ρ) s) (hnl : nl.length ≤ 1000)
    (hroom : A.depth + 20 < recursionLimit) (hun : A.units + 1000 < cLine) (hh : A.handled = none) (hg : 401 ∈ G.gtabs) (hgp : G.gensP = AllBare)
    (hm00 : 0 < m0) (hm10 : 0 < m1) (hm01 : m0 ≤ 1000) (hm11 : m1 ≤ 1000) (hk00 : 0 < k0) (hk10 : 0 < k1) (hk01 : k0 ≤ m0) (hk11 : k1 ≤ m1)
    (k : ∀ q1 q2 q3 q4 q5 q6 q7 q8 q9 q10 q11 q12 n0 n1 ns0 ns1 r0 r1 l2 s', (ns0.length = m0 ∧ ns1.length = m1 ∧ (∀ v ∈ ns0, 0 ≤ v ∧ v ≤ U32) ∧ (∀ v ∈ ns1, 0 ≤ v ∧ v ≤ U32)) → Rep G ((L, isNs [("script", some (.ref sc)), ("n", q1), ("numbers", some (.ref nu)), ("bits", some (Value.int m0 t2)), ("rounds", some (.ref rd)), ("added", some (.ref ad)), ("deed", q2), ("key", q3), ("one", q4), ("least", q5), ("told", q6), ("due", q7), ("alike", none), ("both", none), ("common", none), ("shared", none)]) :: (pn, isCell (none)) :: (fi, isCell (some (.ref fl))) :: (su, isCell (none)) :: (go, isCell (q8)) :: (pl, isCell (q9)) :: (rw', isCell (q10)) :: (mu, isCell (q11)) :: (rs, isCell (some (.ref rl))) :: (at', isCell (q12)) :: (si, isCell (some (.ref sz))) :: (sa, isCell (some (.ref sl))) :: (wa, isCell (some (Value.int w t1))) :: (x0, obj 445 d0 (cbf b0 f0 m0 k0 w n0)) :: (b0, isInts ns0) :: (r0, isInts ns0) :: (x1, obj 445 d1 (cbf b1 f1 m1 k1 w n1)) :: (b1, isInts ns1) :: (r1, isInts ns1) :: (fl, isLst [.ref x0, .ref x1]) :: (rl, isLst [.ref r0, .ref r1]) :: (ad, isInts [n0, n1]) :: (490, isTab #[]) :: (l2, isInts (nl.drop 2)) :: ρ) s' → wpAny (model G.prog G.w) A (execs ((lawS G.K).drop 10) env) Q E s') :
    wpAny (model G.prog G.w) A (execs ((lawS G.K).drop 9) env) Q E s := by
  have he0 := he
  conv at he => arg 2; whnf
  refine wpAny_execs_cons ?_
  have hnu := hK.nu
  have hsz := hK.sz
  have hsl := hK.sl
  have hrd := hK.rd
  have hd0 := hK.d0
  have hd1 := hK.d1
  walk_at "b_go"
  refine w_SliceFrom ?_
  walk_at "b_go"
  refine ⟨_, by assumption, fun i s₂ R₂ => ?_⟩
  refine w_cutFrom (l := nu) (i := i) (ns := nl) R₂ (by walk_at "b_mem") (by walk_at "b_mem") (by decide) (by rw [sizeLine_eq]; omega) (fun l2 s₃ R₃ => ?_)
  refine w_iterInts R₃ .head (fun it s₄ hn R₄ => ?_)
  refine w_forLoop (Iter.ints (ns := nl.drop 2) hn) (fun i σ' => ∃ q1 q2 q3 q4 q5 q6 q7 q8 q9 q10 q11 q12 n0 n1 ns0 ns1 r0 r1, (ns0.length = m0 ∧ ns1.length = m1 ∧ (∀ v ∈ ns0, 0 ≤ v ∧ v ≤ U32) ∧ (∀ v ∈ ns1, 0 ≤ v ∧ v ≤ U32)) ∧ n0 ≤ (i : Int) * 4294967296 ∧ n1 ≤ (i : Int) * 4294967296 ∧ σ' = (L, isNs [("script", some (.ref sc)), ("n", q1), ("numbers", some (.ref nu)), ("bits", some (Value.int m0 t2)), ("rounds", some (.ref rd)), ("added", some (.ref ad)), ("deed", q2), ("key", q3), ("one", q4), ("least", q5), ("told", q6), ("due", q7), ("alike", none), ("both", none), ("common", none), ("shared", none)]) :: (pn, isCell (none)) :: (fi, isCell (some (.ref fl))) :: (su, isCell (none)) :: (go, isCell (q8)) :: (pl, isCell (q9)) :: (rw', isCell (q10)) :: (mu, isCell (q11)) :: (rs, isCell (some (.ref rl))) :: (at', isCell (q12)) :: (si, isCell (some (.ref sz))) :: (sa, isCell (some (.ref sl))) :: (wa, isCell (some (Value.int w t1))) :: (x0, obj 445 d0 (cbf b0 f0 m0 k0 w n0)) :: (b0, isInts ns0) :: (r0, isInts ns0) :: (x1, obj 445 d1 (cbf b1 f1 m1 k1 w n1)) :: (b1, isInts ns1) :: (r1, isInts ns1) :: (fl, isLst [.ref x0, .ref x1]) :: (rl, isLst [.ref r0, .ref r1]) :: (ad, isInts [n0, n1]) :: (490, isTab #[]) :: (l2, isInts (nl.drop 2)) :: ρ) hh (R₄.sel (by walk_at "b_sel"))
    ⟨none, none, none, none, none, none, none, none, none, none, none, none, 0, 0, List.replicate m0 0, List.replicate m1 0, r00, r10, ⟨by simp, by simp, fun v hv => by rw [List.eq_of_mem_replicate hv]; decide, fun v hv => by rw [List.eq_of_mem_replicate hv]; decide⟩, by decide, by decide, rfl⟩ ?_ ?_ ?_
  · rintro i σ' ⟨q1, q2, q3, q4, q5, q6, q7, q8, q9, q10, q11, q12, n0, n1, ns0, ns1, r0, r1, _, _, _, rfl⟩
    walk_at "b_mem"
  · rintro E' i σ' s₅ v hi ⟨n, tn, hv, rfl⟩ ⟨q1, q2, q3, q4, q5, q6, q7, q8, q9, q10, q11, q12, n0, n1, ns0, ns1, r0, r1, ⟨hl0, hl1, hb0, hb1⟩, hc0, hc1, rfl⟩ R₅
    walk_at "b_st"
    walk_at "b_st"
    have h2 : n.fmod 2 = 0 ∨ n.fmod 2 = 1 := by have h1 := Int.fmod_nonneg_of_pos n (show (0 : Int) < 2 by decide); have h3 := Int.fmod_lt_of_pos n (show (0 : Int) < 2 by decide); omega
    have hi2 : (i : Int) ≤ 1000 := by have : i < (nl.drop 2).length := hi; simp at this; omega
    have hdd : 0 ≤ (n.fdiv 2).fmod 6 ∧ (n.fdiv 2).fmod 6 < 6 := ⟨Int.fmod_nonneg_of_pos _ (by decide), Int.fmod_lt_of_pos _ (by decide)⟩
    have hab := amounts_bd ((n.fdiv 96).fmod 8).toNat
    have hf0 : IsHash G ((x1, obj 445 d1 (cbf b1 f1 m1 k1 w n1)) :: (b1, isInts ns1) :: (r1, isInts ns1) :: (fl, isLst [.ref x0, .ref x1]) :: (490, isTab #[]) :: (it, isLstIter l2 (i + 1)) :: (l2, isInts (nl.drop 2)) :: ρ) f0 s0 := hK.h0.mono (by repeat (first | exact Sub.refl | apply Sub.cons))
    have hf1 : IsHash G ((x0, obj 445 d0 (cbf b0 f0 m0 k0 w n0)) :: (b0, isInts ns0) :: (r0, isInts ns0) :: (fl, isLst [.ref x0, .ref x1]) :: (490, isTab #[]) :: (it, isLstIter l2 (i + 1)) :: (l2, isInts (nl.drop 2)) :: ρ) f1 s1 := hK.h1.mono (by repeat (first | exact Sub.refl | apply Sub.cons))
    rcases h2 with h2 | h2
    · refine law_s1 (j := 0) (xa := x0) (da := d0) (ba := b0) (fa := f0) (ra := r0) (ma := m0) (ka := k0) (sv := s0) (na := n0) (ns := ns0) (fls := [.ref x0, .ref x1]) (rls := [.ref r0, .ref r1]) (as := [n0, n1]) (szs := [(m0 : Int), (m1 : Int)]) (sls := [s0, s1]) (rds := [(k0 : Int), (k1 : Int)]) (ρ := (x1, obj 445 d1 (cbf b1 f1 m1 k1 w n1)) :: (b1, isInts ns1) :: (r1, isInts ns1) :: (fl, isLst [.ref x0, .ref x1]) :: (490, isTab #[]) :: (it, isLstIter l2 (i + 1)) :: (l2, isInts (nl.drop 2)) :: ρ) he0 (Rep.sel (by assumption) (by walk_at "b_sel")) hroom hun hh (by walk_at "b_mem") (by walk_at "b_mem") (by walk_at "b_mem") (by walk_at "b_mem") rfl rfl rfl rfl rfl h2 (by decide) hl0.symm hm00 hm01 hk00 hk01 (fun c td tk ta tl t5 pls M s₆ hc hM R₆ => ?_)
      refine law_deed hdd he0 hroom hun hh hg hgp (fls := [.ref x0, .ref x1]) (szs := [(m0 : Int), (m1 : Int)]) (by walk_at "b_mem") (by walk_at "b_mem") (by walk_at "b_mem") hf0 rfl rfl rfl rfl (by decide) hl0.symm hm00 hm01 hk00 hk01 (ksOf_len _ _ _ _) (ksOf_map hm00) (ksOf_lt hm00) (ksOf_nodup hm00 hk01) hab.1 hab.2 hb0 (by omega) hM R₆ (fun tv dv g na' ns' ra' s₇ hs hl hb hn' R₇ => ?_)
      refine law_chk9 he0 hroom hun hh (by walk_at "b_mem") (by decide) rfl rfl hs R₇ (fun s₈ R₈ => ?_)
      exact ⟨_, R₈.sel (τ := (it, isLstIter l2 (i + 1)) :: (L, isNs [("script", some (.ref sc)), ("n", some (Value.int n tn)), ("numbers", some (.ref nu)), ("bits", some (Value.int m0 t2)), ("rounds", some (.ref rd)), ("added", some (.ref ad)), ("deed", some (Value.int ((n.fdiv 2).fmod 6) td)), ("key", some (Value.str ⟨#[c]⟩ tk)), ("one", some (.ref x0)), ("least", some (Value.int M tl)), ("told", some tv), ("due", some dv), ("alike", none), ("both", none), ("common", none), ("shared", none)]) :: (pn, isCell (none)) :: (fi, isCell (some (.ref fl))) :: (su, isCell (none)) :: (go, isCell (g)) :: (pl, isCell (some (.ref pls))) :: (rw', isCell (some (.ref r0))) :: (mu, isCell (some (Value.int (amounts.getD ((n.fdiv 96).fmod 8).toNat 0) ta))) :: (rs, isCell (some (.ref rl))) :: (at', isCell (some (Value.int ((0 : Nat) : Int) t5))) :: (si, isCell (some (.ref sz))) :: (sa, isCell (some (.ref sl))) :: (wa, isCell (some (Value.int w t1))) :: (x0, obj 445 d0 (cbf b0 f0 m0 k0 w na')) :: (b0, isInts ns') :: (ra', isInts ns') :: (x1, obj 445 d1 (cbf b1 f1 m1 k1 w n1)) :: (b1, isInts ns1) :: (r1, isInts ns1) :: (fl, isLst [.ref x0, .ref x1]) :: (rl, isLst [.ref ra', .ref r1]) :: (ad, isInts [na', n1]) :: (490, isTab #[]) :: (l2, isInts (nl.drop 2)) :: ρ) (by walk_at "b_sel"),
        _, _, _, _, _, _, _, _, _, _, _, _, na', n1, ns', ns1, ra', r1, ⟨hl.trans hl0, hl1, hb, hb1⟩, by omega, by omega, rfl⟩
    · refine law_s1 (j := 1) (xa := x1) (da := d1) (ba := b1) (fa := f1) (ra := r1) (ma := m1) (ka := k1) (sv := s1) (na := n1) (ns := ns1) (fls := [.ref x0, .ref x1]) (rls := [.ref r0, .ref r1]) (as := [n0, n1]) (szs := [(m0 : Int), (m1 : Int)]) (sls := [s0, s1]) (rds := [(k0 : Int), (k1 : Int)]) (ρ := (x0, obj 445 d0 (cbf b0 f0 m0 k0 w n0)) :: (b0, isInts ns0) :: (r0, isInts ns0) :: (fl, isLst [.ref x0, .ref x1]) :: (490, isTab #[]) :: (it, isLstIter l2 (i + 1)) :: (l2, isInts (nl.drop 2)) :: ρ) he0 (Rep.sel (by assumption) (by walk_at "b_sel")) hroom hun hh (by walk_at "b_mem") (by walk_at "b_mem") (by walk_at "b_mem") (by walk_at "b_mem") rfl rfl rfl rfl rfl h2 (by decide) hl1.symm hm10 hm11 hk10 hk11 (fun c td tk ta tl t5 pls M s₆ hc hM R₆ => ?_)
      refine law_deed hdd he0 hroom hun hh hg hgp (fls := [.ref x0, .ref x1]) (szs := [(m0 : Int), (m1 : Int)]) (by walk_at "b_mem") (by walk_at "b_mem") (by walk_at "b_mem") hf1 rfl rfl rfl rfl (by decide) hl1.symm hm10 hm11 hk10 hk11 (ksOf_len _ _ _ _) (ksOf_map hm10) (ksOf_lt hm10) (ksOf_nodup hm10 hk11) hab.1 hab.2 hb1 (by omega) hM R₆ (fun tv dv g na' ns' ra' s₇ hs hl hb hn' R₇ => ?_)
      refine law_chk9 he0 hroom hun hh (by walk_at "b_mem") (by decide) rfl rfl hs R₇ (fun s₈ R₈ => ?_)
      exact ⟨_, R₈.sel (τ := (it, isLstIter l2 (i + 1)) :: (L, isNs [("script", some (.ref sc)), ("n", some (Value.int n tn)), ("numbers", some (.ref nu)), ("bits", some (Value.int m0 t2)), ("rounds", some (.ref rd)), ("added", some (.ref ad)), ("deed", some (Value.int ((n.fdiv 2).fmod 6) td)), ("key", some (Value.str ⟨#[c]⟩ tk)), ("one", some (.ref x1)), ("least", some (Value.int M tl)), ("told", some tv), ("due", some dv), ("alike", none), ("both", none), ("common", none), ("shared", none)]) :: (pn, isCell (none)) :: (fi, isCell (some (.ref fl))) :: (su, isCell (none)) :: (go, isCell (g)) :: (pl, isCell (some (.ref pls))) :: (rw', isCell (some (.ref r1))) :: (mu, isCell (some (Value.int (amounts.getD ((n.fdiv 96).fmod 8).toNat 0) ta))) :: (rs, isCell (some (.ref rl))) :: (at', isCell (some (Value.int ((1 : Nat) : Int) t5))) :: (si, isCell (some (.ref sz))) :: (sa, isCell (some (.ref sl))) :: (wa, isCell (some (Value.int w t1))) :: (x0, obj 445 d0 (cbf b0 f0 m0 k0 w n0)) :: (b0, isInts ns0) :: (r0, isInts ns0) :: (x1, obj 445 d1 (cbf b1 f1 m1 k1 w na')) :: (b1, isInts ns') :: (ra', isInts ns') :: (fl, isLst [.ref x0, .ref x1]) :: (rl, isLst [.ref r0, .ref ra']) :: (ad, isInts [n0, na']) :: (490, isTab #[]) :: (l2, isInts (nl.drop 2)) :: ρ) (by walk_at "b_sel"),
        _, _, _, _, _, _, _, _, _, _, _, _, n0, na', ns0, ns', r0, ra', ⟨hl0, hl.trans hl1, hb0, hb⟩, by omega, by omega, rfl⟩
  · rintro σ' s₅ ⟨q1, q2, q3, q4, q5, q6, q7, q8, q9, q10, q11, q12, n0, n1, ns0, ns1, r0, r1, hF, _, _, rfl⟩ R₅
    exact k q1 q2 q3 q4 q5 q6 q7 q8 q9 q10 q11 q12 n0 n1 ns0 ns1 r0 r1 l2 _ hF R₅
end
end Bl


namespace Bl
section
variable {G : Gd hd.heap_39} {A : Around} {E : Value → Shared → Prop} {σ τ : Led} {s : Shared} {env : Env}

theorem triples_snoc {a b : Int} {c : Value} : ∀ {l : List Value}, TriplesOk l → TriplesOk (l ++ [rawInt a, rawInt b, c])
  | [], _ => trivial
  | .int _ _ :: .int _ _ :: _ :: r, h => triples_snoc (l := r) h
theorem among_snoc {pos pos' : Pos} {c : Value} (hne : pos.line ≠ pos'.line) : ∀ {l : List Value}, TriplesOk l → codeAmong pos' l = none → codeAmong pos' (l ++ [rawInt pos.line, rawInt pos.col, c]) = none
  | [], _, _ => by
    show (if ((pos.line : Int) == (pos'.line : Int) && (pos.col : Int) == (pos'.col : Int)) = true then some c else codeAmong pos' []) = none
    have : ((pos.line : Int) == (pos'.line : Int)) = false := by rw [beq_eq_false_iff_ne]; omega
    rw [this]; rfl
  | .int a t :: .int b u :: x :: r, h, hn => by
    rw [codeAmong] at hn
    show codeAmong pos' (.int a t :: .int b u :: x :: (r ++ _)) = none
    rw [codeAmong]
    split at hn
    · cases hn
    · rename_i q
      rw [if_neg q]
      exact among_snoc hne (l := r) h hn
def TabLt (ps : Array Value) (l : Nat) : Prop := TriplesOk ps.toList ∧ ∀ pos : Pos, l < pos.line → codeAmong pos ps.toList = none
theorem TabLt.nil (l : Nat) : TabLt #[] l := ⟨trivial, fun _ _ => rfl⟩
theorem TabLt.snoc {ps : Array Value} {l : Nat} {pos : Pos} {c : Value} (h : TabLt ps l) (hp : l < pos.line) : TabLt (ps ++ #[rawInt pos.line, rawInt pos.col, c]) pos.line := by
  unfold TabLt
  rw [Array.toList_append]
  exact ⟨triples_snoc h.1, fun pos' hp' => among_snoc (by omega) h.1 (h.2 pos' (by omega))⟩
theorem framesIn1 {L : Addr} {ρ : List (Str × Option Value)} (hk : env.scope.kind = .function) (hf : env.frame = some L) (hm : (L, isNs ρ) ∈ σ) : FramesIn σ [env] := fun e he => by
  rw [List.mem_singleton.mp he]
  exact ⟨by rw [hk]; decide, L, ρ, hf, hm⟩
theorem LawK.mono {ρ ρ' : Led} {d0 d1 rd sz sl nu f0 f1 : Addr} {m0 m1 k0 k1 : Nat} {s0 s1 : Int} {nl : List Int} (h : LawK G ρ d0 d1 rd sz sl nu f0 f1 m0 m1 k0 k1 s0 s1 nl) (hs : Sub G ρ ρ') : LawK G ρ' d0 d1 rd sz sl nu f0 f1 m0 m1 k0 k1 s0 s1 nl :=
  ⟨hs _ _ h.d0, hs _ _ h.d1, hs _ _ h.rd, hs _ _ h.sz, hs _ _ h.sl, hs _ _ h.nu, h.h0.mono hs, h.h1.mono hs, h.tab.imp fun _ x => hs _ _ x⟩
/-- what comes of a union (or an intersection) that is tried -/
def OutU (G : Gd hd.heap_39) (ρ : Led) (l : Addr) (sim : Prop) (ds : List Int) (m k w : Nat) : Prop :=
  (¬ sim ∧ ∃ t, Holds G ρ l (isLst [.str (Str.ofString "unlike") t])) ∨ (sim ∧ (∃ v ∈ ds, U32 < v) ∧ ∃ t, Holds G ρ l (isLst [.str (Str.ofString "too great") t])) ∨
  (sim ∧ (∀ v ∈ ds, v ≤ U32) ∧ ∃ r dr br f q, Holds G ρ l (isLst [.ref r]) ∧ Holds G ρ r (obj 445 dr (cbf br f m k w q)) ∧ Holds G ρ br (isInts ds) ∧ Holds G ρ dr isAny)
theorem OutU.mono {ρ ρ' : Led} {l : Addr} {sim : Prop} {ds : List Int} {m k w : Nat} (h : OutU G ρ l sim ds m k w) (hs : Sub G ρ ρ') : OutU G ρ' l sim ds m k w := by
  rcases h with ⟨h1, t, h2⟩ | ⟨h1, h2, t, h3⟩ | ⟨h1, h2, r, dr, br, f, q, h3, h4, h5, h6⟩
  · exact .inl ⟨h1, t, hs _ _ h2⟩
  · exact .inr (.inl ⟨h1, h2, t, hs _ _ h3⟩)
  · exact .inr (.inr ⟨h1, h2, r, dr, br, f, q, hs _ _ h3, hs _ _ h4, hs _ _ h5, hs _ _ h6⟩)

theorem law_C1 {L pn fi su go pl rw' mu rs at' si sa wa sc nu sz sl rd fl rl ad x0 d0 b0 f0 x1 d1 b1 f1 r0 r1 : Addr} {t1 t2 : Tok} {q1 q2 q3 q4 q5 q6 q7 q8 q9 q10 q11 q12 : Option Value} {nl ns0 ns1 : List Int} {m0 m1 k0 k1 w : Nat} {s0 s1 n0 n1 : Int} {ρ : Led} {ps : Array Value} {Q : Flow → Shared → Prop} (he : EnvIs env (lawSc G.K) L [("plain", pn), ("filters", fi), ("sums", su), ("gone", go), ("places", pl), ("row", rw'), ("much", mu), ("rows", rs), ("at", at'), ("sizes", si), ("salts", sa), ("wanted", wa)] (.ref 492)) (hf : env.frame = some L) (hfr : A.frames = some [env]) (hK : LawK G ρ d0 d1 rd sz sl nu f0 f1 m0 m1 k0 k1 s0 s1 nl) (hroom : A.depth + 40 < recursionLimit) (hun : A.units + 1000 < cLine) (hh : A.handled = none) (hP : G.prog = PySem.Challenge.pw_sv0017_05) (hl : G.ltabs = [469, 490]) (hg1 : 436 ∈ G.gtabs) (hg2 : 271 ∈ G.gtabs) (hgp : G.gensP = AllBare) (hm00 : 0 < m0) (hm10 : 0 < m1) (hm01 : m0 ≤ 1000) (hm11 : m1 ≤ 1000) (hk00 : 0 < k0) (hk10 : 0 < k1) (hk01 : k0 ≤ m0) (hk11 : k1 ≤ m1) (hw : 0 < w) (hw1 : w ≤ 1000) (hh0 : hashNo m0 w = k0) (hl0 : ns0.length = m0) (hl1 : ns1.length = m1) (hb0 : ∀ v ∈ ns0, 0 ≤ v ∧ v ≤ U32) (hb1 : ∀ v ∈ ns1, 0 ≤ v ∧ v ≤ U32) (hmk : m0 = m1 → k0 = k1)
    (R : Rep G ((L, isNs [("script", some (.ref sc)), ("n", q1), ("numbers", some (.ref nu)), ("bits", some (Value.int m0 t2)), ("rounds", some (.ref rd)), ("added", some (.ref ad)), ("deed", q2), ("key", q3), ("one", q4), ("least", q5), ("told", q6), ("due", q7), ("alike", none), ("both", none), ("common", none), ("shared", none)]) :: (pn, isCell (none)) :: (fi, isCell (some (.ref fl))) :: (su, isCell (none)) :: (go, isCell (q8)) :: (pl, isCell (q9)) :: (rw', isCell (q10)) :: (mu, isCell (q11)) :: (rs, isCell (some (.ref rl))) :: (at', isCell (q12)) :: (si, isCell (some (.ref sz))) :: (sa, isCell (some (.ref sl))) :: (wa, isCell (some (Value.int w t1))) :: (x0, obj 445 d0 (cbf b0 f0 m0 k0 w n0)) :: (b0, isInts ns0) :: (r0, isInts ns0) :: (x1, obj 445 d1 (cbf b1 f1 m1 k1 w n1)) :: (b1, isInts ns1) :: (r1, isInts ns1) :: (fl, isLst [.ref x0, .ref x1]) :: (rl, isLst [.ref r0, .ref r1]) :: (ad, isInts [n0, n1]) :: (490, isTab ps) :: ρ) s) (hps : TabLt ps 376)
    (k : ∀ ps' lb ρ' s', TabLt ps' 377 → Sub G ρ ρ' → OutU G ρ' lb (k0 = k1 ∧ m0 = m1 ∧ placesOf 116 s0 k0 = placesOf 116 s1 k1) (sumsOf ns0 ns1) m0 k0 w → Rep G ((L, isNs [("script", some (.ref sc)), ("n", q1), ("numbers", some (.ref nu)), ("bits", some (Value.int m0 t2)), ("rounds", some (.ref rd)), ("added", some (.ref ad)), ("deed", q2), ("key", q3), ("one", q4), ("least", q5), ("told", q6), ("due", q7), ("alike", some (Value.bool (decide (m0 = m1 ∧ placesOf 116 s0 k0 = placesOf 116 s1 k1)))), ("both", some (.ref lb)), ("common", none), ("shared", none)]) :: (pn, isCell (none)) :: (fi, isCell (some (.ref fl))) :: (su, isCell (none)) :: (go, isCell (q8)) :: (pl, isCell (q9)) :: (rw', isCell (q10)) :: (mu, isCell (q11)) :: (rs, isCell (some (.ref rl))) :: (at', isCell (q12)) :: (si, isCell (some (.ref sz))) :: (sa, isCell (some (.ref sl))) :: (wa, isCell (some (Value.int w t1))) :: (x0, obj 445 d0 (cbf b0 f0 m0 k0 w n0)) :: (b0, isInts ns0) :: (r0, isInts ns0) :: (x1, obj 445 d1 (cbf b1 f1 m1 k1 w n1)) :: (b1, isInts ns1) :: (r1, isInts ns1) :: (fl, isLst [.ref x0, .ref x1]) :: (rl, isLst [.ref r0, .ref r1]) :: (ad, isInts [n0, n1]) :: (490, isTab ps') :: ρ') s' → wpAny (model G.prog G.w) A (execs ((lawS G.K).drop 12) env) Q E s') :
    wpAny (model G.prog G.w) A (execs ((lawS G.K).drop 10) env) Q E s := by
  have he1 := he
  conv at he1 => arg 2; whnf
  have hnu := hK.nu
  have hsz := hK.sz
  have hsl := hK.sl
  have hrd := hK.rd
  have hd0 := hK.d0
  have hd1 := hK.d1
  refine wpAny_execs_cons ?_
  walk_at "b_st"
  refine wpAny_mono (Q := fun v s' => v = .bool (decide (m0 = m1 ∧ placesOf 116 s0 k0 = placesOf 116 s1 k1)) ∧ Rep G ((L, isNs [("script", some (.ref sc)), ("n", q1), ("numbers", some (.ref nu)), ("bits", some (Value.int m0 t2)), ("rounds", some (.ref rd)), ("added", some (.ref ad)), ("deed", q2), ("key", q3), ("one", q4), ("least", q5), ("told", q6), ("due", q7), ("alike", none), ("both", none), ("common", none), ("shared", none)]) :: (pn, isCell (none)) :: (fi, isCell (some (.ref fl))) :: (su, isCell (none)) :: (go, isCell (q8)) :: (pl, isCell (q9)) :: (rw', isCell (q10)) :: (mu, isCell (q11)) :: (rs, isCell (some (.ref rl))) :: (at', isCell (q12)) :: (si, isCell (some (.ref sz))) :: (sa, isCell (some (.ref sl))) :: (wa, isCell (some (Value.int w t1))) :: (x0, obj 445 d0 (cbf b0 f0 m0 k0 w n0)) :: (b0, isInts ns0) :: (r0, isInts ns0) :: (x1, obj 445 d1 (cbf b1 f1 m1 k1 w n1)) :: (b1, isInts ns1) :: (r1, isInts ns1) :: (fl, isLst [.ref x0, .ref x1]) :: (rl, isLst [.ref r0, .ref r1]) :: (ad, isInts [n0, n1]) :: (490, isTab ps) :: ρ) s') ?_ ?_ (fun _ _ x => x)
  · walk_at "b_go"
    refine w_itemI (n := (m0 : Int)) (by assumption) (by walk_at "b_mem") (by decide) rfl (by decide) (fun _ => ?_)
    walk_at "b_go"
    refine w_itemI (n := (m1 : Int)) (by assumption) (by walk_at "b_mem") (by decide) rfl (by decide) (fun _ => ?_)
    walk_at "b_go"
    refine ite_beq (fun hm => ?_) (fun hm => ?_)
    · walk_at "b_go"
      refine w_itemI (n := (k0 : Int)) (by assumption) (by walk_at "b_mem") (by decide) rfl (by decide) (fun _ => ?_)
      walk_at "b_go"
      refine w_itemI (n := s0) (by assumption) (by walk_at "b_mem") (by decide) rfl (by decide) (fun _ => ?_)
      walk_at "b_go"
      refine x_callM (sp_places (c := 116) (y := Str.ofString "test") (d := k0) (salt := s0) (by assumption) (by omega) hh (by decide +kernel) (by omega) (fun D₁ s₂ R₂ => ?_))
      walk_at "b_go"
      refine w_itemI (n := (k1 : Int)) (by assumption) (by walk_at "b_mem") (by decide) rfl (by decide) (fun _ => ?_)
      walk_at "b_go"
      refine w_itemI (n := s1) (by assumption) (by walk_at "b_mem") (by decide) rfl (by decide) (fun _ => ?_)
      walk_at "b_go"
      refine x_callM (sp_places (c := 116) (y := Str.ofString "test") (d := k1) (salt := s1) (by assumption) (by omega) hh (by decide +kernel) (by omega) (fun D₂ s₃ R₃ => ?_))
      refine w_eqI (l := D₁) (l' := D₂) (by assumption) (by walk_at "b_mem") (by walk_at "b_mem") (by omega) ?_
      refine ⟨congrArg Value.bool (decide_eq_decide.mpr ⟨fun q => ⟨by omega, q⟩, fun q => q.2⟩), Rep.sel (by assumption) (by walk_at "b_sel")⟩
    · have hmb : ((m0 : Int) == (m1 : Int)) = false := by simpa using hm
      refine ⟨by rw [hmb]; exact congrArg Value.bool (decide_eq_false (fun q => hm (by omega))).symm, Rep.sel (by assumption) (by walk_at "b_sel")⟩
  rintro v s₁ ⟨rfl, R₁⟩
  walk_at "b_go"
  refine w_lambda (P := 490) (by assumption) he1 rfl (fun _ => by walk_at "b_upd") (tabOff (by rw [hl]; decide)) hps.1 (hps.2 _ (by decide)) (by kernel_rfl) (fun fd c' s₂ R₂ => ?_)
  replace hps := hps.snoc (pos := ⟨377, 0, 377, 36⟩) (c := .ref c') (by decide)
  walk_at "b_go"
  refine x_callM (sp_try (fd := fd) (D := fun v σ1 => (k0 = k1 ∧ m0 = m1 ∧ placesOf 116 s0 k0 = placesOf 116 s1 k1) ∧ (∀ v ∈ sumsOf ns0 ns1, v ≤ U32) ∧ ∃ r dr br q, v = .ref r ∧ σ1 = [(r, obj 445 dr (cbf br f0 m0 k0 w q)), (br, isInts (sumsOf ns0 ns1)), (dr, isAny)])
      (DE := fun c => (¬ (k0 = k1 ∧ m0 = m1 ∧ placesOf 116 s0 k0 = placesOf 116 s1 k1) ∧ c = .ref 90) ∨ ((k0 = k1 ∧ m0 = m1 ∧ placesOf 116 s0 k0 = placesOf 116 s1 k1) ∧ (∃ v ∈ sumsOf ns0 ns1, U32 < v) ∧ c = .type "OverflowError")) R₂
      ⟨⟨_, .head, fun o ⟨pm, ctv, e⟩ => ⟨_, congrArg Obj.data e⟩⟩, ?_⟩ (fun c hc => by rcases hc with ⟨_, h⟩ | ⟨_, _, h⟩; exact .inl h; exact .inr (.inr h)) (by omega) hh hfr (framesIn1 he.kind hf (by walk_at "b_in"))
      (fun v σ1 l s₃ hD R₃ => ?_) (fun hE l t s₃ R₃ => ?_) (fun hE l t s₃ R₃ => ?_) (fun hE l t s₃ R₃ => ?_))
  · intro A' p s outer R' hd hu hh' hfr' hF' R hok herr
    refine c_lam [] [] R (by walk_at "b_mem") (by walk_at "b_mem") (by omega) (fun _ _ => rfl) (fun L' s₃ env' R₃ he2 hf2 hfn2 => ?_)
    walk_at "b_go"
    refine w_item (v := .ref x0) (by assumption) (by walk_at "b_mem") (by decide) rfl (by decide) ?_
    walk_at "b_go"
    refine w_item (v := .ref x1) (by assumption) (by walk_at "b_mem") (by decide) rfl (by decide) ?_
    walk_at "b_go"
    have hFs := hF'.push (ρ := []) he2.kind hf2
    refine x_callM (sp_union (m := m0) (k := k0) (m' := m1) (k' := k1) (w := w) (salt := s0) (salt' := s1) (ns := ns0) (ns' := ns1) (by assumption) (by walk_at "b_mem") (by walk_at "b_mem") (by walk_at "b_mem") (by walk_at "b_mem") (by walk_at "b_mem") (by walk_at "b_mem") (hK.h0.mono (by repeat (first | exact Sub.refl | apply Sub.cons))) (hK.h1.mono (by repeat (first | exact Sub.refl | apply Sub.cons))) hP hg1 hg2 hgp (by rw [dd]; omega) (by rw [du]; omega) hh' (Around.frames_deeper hfr') hFs hl0.symm hl1.symm hm00 hm01 hh0 hk00 (by omega) (by omega) hw hw1
      (fun h1 e T s₄ hT R₄ => ?_) (fun h1 h2 e T s₄ hT R₄ => ?_) (fun h1 h2 r dr br q s₄ R₄ => ?_))
    · refine w_leavingT R₄ hT (Around.frames_deeper hfr') hFs (fun T' s₅ hT' R₅ => ?_)
      exact herr _ e T' s₅ (.inl ⟨h1, rfl⟩) hT' (R₅.sel (by walk_at "b_sel"))
    · refine w_leavingT R₄ hT (Around.frames_deeper hfr') hFs (fun T' s₅ hT' R₅ => ?_)
      exact herr _ e T' s₅ (.inr ⟨h1, h2, rfl⟩) hT' (R₅.sel (by walk_at "b_sel"))
    · exact hok _ _ s₄ ⟨h1, h2, r, dr, br, q, rfl, rfl⟩ (R₄.sel (by walk_at "b_sel"))
  · obtain ⟨h1, h2, r, dr, br, q, rfl, rfl⟩ := hD
    dsimp only [List.cons_append, List.nil_append] at R₃
    walk_at "b_st"
    refine k _ l ((l, isLst [.ref r]) :: (r, obj 445 dr (cbf br f0 m0 k0 w q)) :: (br, isInts (sumsOf ns0 ns1)) :: (dr, isAny) :: ρ) _ hps (by repeat (first | exact Sub.refl | apply Sub.cons)) (.inr (.inr ⟨h1, h2, r, dr, br, f0, q, by walk_at "b_mem", by walk_at "b_mem", by walk_at "b_mem", by walk_at "b_mem"⟩)) (Rep.sel (by assumption) (by walk_at "b_sel"))
  · rcases hE with ⟨h1, _⟩ | ⟨_, _, h⟩
    · walk_at "b_st"
      exact k _ l ((l, isLst [.str (Str.ofString "unlike") t]) :: ρ) _ hps (by repeat (first | exact Sub.refl | apply Sub.cons)) (.inl ⟨h1, t, .head⟩) (Rep.sel (by assumption) (by walk_at "b_sel"))
    · cases h
  · rcases hE with ⟨_, h⟩ | ⟨_, _, h⟩
    · cases h
    · exact absurd h (by decide)
  · rcases hE with ⟨_, h⟩ | ⟨h1, h2, _⟩
    · cases h
    · walk_at "b_st"
      exact k _ l ((l, isLst [.str (Str.ofString "too great") t]) :: ρ) _ hps (by repeat (first | exact Sub.refl | apply Sub.cons)) (.inr (.inl ⟨h1, h2, t, .head⟩)) (Rep.sel (by assumption) (by walk_at "b_sel"))
end
end Bl


namespace Bl
section
variable {G : Gd hd.heap_39} {A : Around} {E : Value → Shared → Prop} {σ τ : Led} {s : Shared} {env : Env}
theorem law_C2 {L pn fi su go pl rw' mu rs at' si sa wa sc nu sz sl rd fl rl ad x0 d0 b0 f0 x1 d1 b1 f1 r0 r1 : Addr} {t1 t2 : Tok} {q1 q2 q3 q4 q5 q6 q7 q8 q9 q10 q11 q12 : Option Value} {nl ns0 ns1 : List Int} {m0 m1 k0 k1 w : Nat} {s0 s1 n0 n1 : Int} {ρ : Led} {ps : Array Value} {Q : Flow → Shared → Prop} {lb : Addr} {bB : Bool} (he : EnvIs env (lawSc G.K) L [("plain", pn), ("filters", fi), ("sums", su), ("gone", go), ("places", pl), ("row", rw'), ("much", mu), ("rows", rs), ("at", at'), ("sizes", si), ("salts", sa), ("wanted", wa)] (.ref 492)) (hf : env.frame = some L) (hfr : A.frames = some [env]) (hK : LawK G ρ d0 d1 rd sz sl nu f0 f1 m0 m1 k0 k1 s0 s1 nl) (hroom : A.depth + 40 < recursionLimit) (hun : A.units + 1000 < cLine) (hh : A.handled = none) (hP : G.prog = PySem.Challenge.pw_sv0017_05) (hl : G.ltabs = [469, 490]) (hg1 : 436 ∈ G.gtabs) (hg2 : 271 ∈ G.gtabs) (hgp : G.gensP = AllBare) (hm00 : 0 < m0) (hm10 : 0 < m1) (hm01 : m0 ≤ 1000) (hm11 : m1 ≤ 1000) (hk00 : 0 < k0) (hk10 : 0 < k1) (hk01 : k0 ≤ m0) (hk11 : k1 ≤ m1) (hw : 0 < w) (hw1 : w ≤ 1000) (hh0 : hashNo m0 w = k0) (hl0 : ns0.length = m0) (hl1 : ns1.length = m1) (hb0 : ∀ v ∈ ns0, 0 ≤ v ∧ v ≤ U32) (hb1 : ∀ v ∈ ns1, 0 ≤ v ∧ v ≤ U32) (hmk : m0 = m1 → k0 = k1)
    (R : Rep G ((L, isNs [("script", some (.ref sc)), ("n", q1), ("numbers", some (.ref nu)), ("bits", some (Value.int m0 t2)), ("rounds", some (.ref rd)), ("added", some (.ref ad)), ("deed", q2), ("key", q3), ("one", q4), ("least", q5), ("told", q6), ("due", q7), ("alike", some (Value.bool bB)), ("both", some (.ref lb)), ("common", none), ("shared", none)]) :: (pn, isCell (none)) :: (fi, isCell (some (.ref fl))) :: (su, isCell (none)) :: (go, isCell (q8)) :: (pl, isCell (q9)) :: (rw', isCell (q10)) :: (mu, isCell (q11)) :: (rs, isCell (some (.ref rl))) :: (at', isCell (q12)) :: (si, isCell (some (.ref sz))) :: (sa, isCell (some (.ref sl))) :: (wa, isCell (some (Value.int w t1))) :: (x0, obj 445 d0 (cbf b0 f0 m0 k0 w n0)) :: (b0, isInts ns0) :: (r0, isInts ns0) :: (x1, obj 445 d1 (cbf b1 f1 m1 k1 w n1)) :: (b1, isInts ns1) :: (r1, isInts ns1) :: (fl, isLst [.ref x0, .ref x1]) :: (rl, isLst [.ref r0, .ref r1]) :: (ad, isInts [n0, n1]) :: (490, isTab ps) :: ρ) s) (hps : TabLt ps 377)
    (k : ∀ ps' lc ρ' s', TabLt ps' 379 → Sub G ρ ρ' → OutU G ρ' lc (k0 = k1 ∧ m0 = m1 ∧ placesOf 116 s0 k0 = placesOf 116 s1 k1) (commOf ns0 ns1) m0 k0 w → Rep G ((L, isNs [("script", some (.ref sc)), ("n", q1), ("numbers", some (.ref nu)), ("bits", some (Value.int m0 t2)), ("rounds", some (.ref rd)), ("added", some (.ref ad)), ("deed", q2), ("key", q3), ("one", q4), ("least", q5), ("told", q6), ("due", q7), ("alike", some (Value.bool bB)), ("both", some (.ref lb)), ("common", some (.ref lc)), ("shared", none)]) :: (pn, isCell (none)) :: (fi, isCell (some (.ref fl))) :: (su, isCell (none)) :: (go, isCell (q8)) :: (pl, isCell (q9)) :: (rw', isCell (q10)) :: (mu, isCell (q11)) :: (rs, isCell (some (.ref rl))) :: (at', isCell (q12)) :: (si, isCell (some (.ref sz))) :: (sa, isCell (some (.ref sl))) :: (wa, isCell (some (Value.int w t1))) :: (x0, obj 445 d0 (cbf b0 f0 m0 k0 w n0)) :: (b0, isInts ns0) :: (r0, isInts ns0) :: (x1, obj 445 d1 (cbf b1 f1 m1 k1 w n1)) :: (b1, isInts ns1) :: (r1, isInts ns1) :: (fl, isLst [.ref x0, .ref x1]) :: (rl, isLst [.ref r0, .ref r1]) :: (ad, isInts [n0, n1]) :: (490, isTab ps') :: ρ') s' → wpAny (model G.prog G.w) A (execs ((lawS G.K).drop 13) env) Q E s') :
    wpAny (model G.prog G.w) A (execs ((lawS G.K).drop 12) env) Q E s := by
  have he1 := he
  conv at he1 => arg 2; whnf
  have hnu := hK.nu
  have hsz := hK.sz
  have hsl := hK.sl
  have hrd := hK.rd
  have hd0 := hK.d0
  have hd1 := hK.d1
  refine wpAny_execs_cons ?_
  walk_at "b_go"
  refine w_lambda (P := 490) (by assumption) he1 rfl (fun _ => by walk_at "b_upd") (tabOff (by rw [hl]; decide)) hps.1 (hps.2 _ (by decide)) (by kernel_rfl) (fun fd c' s₂ R₂ => ?_)
  replace hps := hps.snoc (pos := ⟨379, 0, 379, 43⟩) (c := .ref c') (by decide)
  walk_at "b_go"
  refine x_callM (sp_try (fd := fd) (D := fun v σ1 => (k0 = k1 ∧ m0 = m1 ∧ placesOf 116 s0 k0 = placesOf 116 s1 k1) ∧ (∀ v ∈ commOf ns0 ns1, v ≤ U32) ∧ ∃ r dr br q, v = .ref r ∧ σ1 = [(r, obj 445 dr (cbf br f0 m0 k0 w q)), (br, isInts (commOf ns0 ns1)), (dr, isAny)])
      (DE := fun c => (¬ (k0 = k1 ∧ m0 = m1 ∧ placesOf 116 s0 k0 = placesOf 116 s1 k1) ∧ c = .ref 90) ∨ ((k0 = k1 ∧ m0 = m1 ∧ placesOf 116 s0 k0 = placesOf 116 s1 k1) ∧ (∃ v ∈ commOf ns0 ns1, U32 < v) ∧ c = .type "OverflowError")) R₂
      ⟨⟨_, .head, fun o ⟨pm, ctv, e⟩ => ⟨_, congrArg Obj.data e⟩⟩, ?_⟩ (fun c hc => by rcases hc with ⟨_, h⟩ | ⟨_, _, h⟩; exact .inl h; exact .inr (.inr h)) (by omega) hh hfr (framesIn1 he.kind hf (by walk_at "b_in"))
      (fun v σ1 l s₃ hD R₃ => ?_) (fun hE l t s₃ R₃ => ?_) (fun hE l t s₃ R₃ => ?_) (fun hE l t s₃ R₃ => ?_))
  · intro A' p s outer R' hd hu hh' hfr' hF' R hok herr
    refine c_lam [] [] R (by walk_at "b_mem") (by walk_at "b_mem") (by omega) (fun _ _ => rfl) (fun L' s₃ env' R₃ he2 hf2 hfn2 => ?_)
    walk_at "b_go"
    refine w_item (v := .ref x0) (by assumption) (by walk_at "b_mem") (by decide) rfl (by decide) ?_
    walk_at "b_go"
    refine w_item (v := .ref x1) (by assumption) (by walk_at "b_mem") (by decide) rfl (by decide) ?_
    walk_at "b_go"
    have hFs := hF'.push (ρ := []) he2.kind hf2
    refine x_callM (sp_inter (m := m0) (k := k0) (m' := m1) (k' := k1) (w := w) (salt := s0) (salt' := s1) (ns := ns0) (ns' := ns1) (by assumption) (by walk_at "b_mem") (by walk_at "b_mem") (by walk_at "b_mem") (by walk_at "b_mem") (by walk_at "b_mem") (by walk_at "b_mem") (hK.h0.mono (by repeat (first | exact Sub.refl | apply Sub.cons))) (hK.h1.mono (by repeat (first | exact Sub.refl | apply Sub.cons))) hP hg1 hg2 hgp (by rw [dd]; omega) (by rw [du]; omega) hh' (Around.frames_deeper hfr') hFs hl0.symm hl1.symm hm00 hm01 hh0 hk00 (by omega) (by omega) hw hw1
      (fun h1 e T s₄ hT R₄ => ?_) (fun h1 h2 e T s₄ hT R₄ => ?_) (fun h1 h2 r dr br q s₄ R₄ => ?_))
    · refine w_leavingT R₄ hT (Around.frames_deeper hfr') hFs (fun T' s₅ hT' R₅ => ?_)
      exact herr _ e T' s₅ (.inl ⟨h1, rfl⟩) hT' (R₅.sel (by walk_at "b_sel"))
    · refine w_leavingT R₄ hT (Around.frames_deeper hfr') hFs (fun T' s₅ hT' R₅ => ?_)
      exact herr _ e T' s₅ (.inr ⟨h1, h2, rfl⟩) hT' (R₅.sel (by walk_at "b_sel"))
    · exact hok _ _ s₄ ⟨h1, h2, r, dr, br, q, rfl, rfl⟩ (R₄.sel (by walk_at "b_sel"))
  · obtain ⟨h1, h2, r, dr, br, q, rfl, rfl⟩ := hD
    dsimp only [List.cons_append, List.nil_append] at R₃
    walk_at "b_st"
    refine k _ l ((l, isLst [.ref r]) :: (r, obj 445 dr (cbf br f0 m0 k0 w q)) :: (br, isInts (commOf ns0 ns1)) :: (dr, isAny) :: ρ) _ hps (by repeat (first | exact Sub.refl | apply Sub.cons)) (.inr (.inr ⟨h1, h2, r, dr, br, f0, q, by walk_at "b_mem", by walk_at "b_mem", by walk_at "b_mem", by walk_at "b_mem"⟩)) (Rep.sel (by assumption) (by walk_at "b_sel"))
  · rcases hE with ⟨h1, _⟩ | ⟨_, _, h⟩
    · walk_at "b_st"
      exact k _ l ((l, isLst [.str (Str.ofString "unlike") t]) :: ρ) _ hps (by repeat (first | exact Sub.refl | apply Sub.cons)) (.inl ⟨h1, t, .head⟩) (Rep.sel (by assumption) (by walk_at "b_sel"))
    · cases h
  · rcases hE with ⟨_, h⟩ | ⟨_, _, h⟩
    · cases h
    · exact absurd h (by decide)
  · rcases hE with ⟨_, h⟩ | ⟨h1, h2, _⟩
    · cases h
    · walk_at "b_st"
      exact k _ l ((l, isLst [.str (Str.ofString "too great") t]) :: ρ) _ hps (by repeat (first | exact Sub.refl | apply Sub.cons)) (.inr (.inl ⟨h1, h2, t, .head⟩)) (Rep.sel (by assumption) (by walk_at "b_sel"))
end
end Bl


namespace Bl
section
variable {G : Gd hd.heap_39} {A : Around} {E : Value → Shared → Prop} {σ τ : Led} {s : Shared} {env : Env}

theorem sp_joined {l d : Addr} {sim : Prop} {ds : List Int} {m k w : Nat} {R' : Result → Shared → Prop} (R : Rep G σ s) (hO : OutU G σ l sim ds m k w) (hs : sim) (hd : Holds G σ d (isInts ds)) (hne : ds ≠ [])
    (hroom : A.depth + 1 < recursionLimit) (hun : A.units + 100 < cLine) (hh : A.handled = none) (h : ∀ s', Rep G σ s' → R' (.ok (.ret (.bool true))) s') :
    codeAny (model G.prog G.w) A (.call (.ref 488) ⟨[.ref l, .ref d], []⟩) R' s := by
  rcases hO with ⟨h1, _⟩ | ⟨_, h2, t, h3⟩ | ⟨_, h2, r, dr, br, f, q, h3, h4, h5, h6⟩
  · exact absurd hs h1
  · exact sp_joinedBig R h3 hd h2 (by omega) hun hh h
  · exact sp_joinedOk R h3 h4 h6 h5 hd hne h2 hroom hun hh h
theorem sumsOf_get {ns ns' : List Int} {i : Nat} {a c : Int} (ha : ns[i]? = some a) (hc : ns'[i]? = some c) : (sumsOf ns ns')[i]? = some (a + c) := by simp [sumsOf, List.getElem?_zipWith, ha, hc]
theorem sums_row {ns0 ns1 : List Int} {m : Nat} (h0 : ns0.length = m) (h1 : ns1.length = m) : (List.range m).map (fun i => ns0.getD i 0 + ns1.getD i 0) = sumsOf ns0 ns1 := by
  refine List.ext_getElem? fun i => ?_
  rw [List.getElem?_map]
  by_cases hi : i < m
  · rw [List.getElem?_range hi]
    rw [sumsOf_get (get_getD (by omega)) (get_getD (by omega))]; rfl
  · rw [List.getElem?_eq_none (by simp; omega), List.getElem?_eq_none (by simp [sumsOf]; omega)]; rfl
theorem comm_row {ns0 ns1 : List Int} {m : Nat} (h0 : ns0.length = m) (h1 : ns1.length = m) : (List.range m).map (fun i => if 0 < ns0.getD i 0 ∧ 0 < ns1.getD i 0 then ns0.getD i 0 + ns1.getD i 0 else 0) = commOf ns0 ns1 := by
  refine List.ext_getElem? fun i => ?_
  rw [List.getElem?_map]
  by_cases hi : i < m
  · rw [List.getElem?_range hi, commOf_get (get_getD (by omega)) (get_getD (by omega))]; rfl
  · rw [List.getElem?_eq_none (by simp; omega), List.getElem?_eq_none (by simp [commOf]; omega)]; rfl

theorem law_C3 {L pn fi su go pl rw' mu rs at' si sa wa sc nu sz sl rd fl rl ad x0 d0 b0 f0 x1 d1 b1 f1 r0 r1 : Addr} {t1 t2 : Tok} {q1 q2 q3 q4 q5 q6 q7 q8 q9 q10 q11 q12 : Option Value} {nl ns0 ns1 : List Int} {m0 m1 k0 k1 w : Nat} {s0 s1 n0 n1 : Int} {ρ : Led} {ps : Array Value} {Q : Flow → Shared → Prop} {lb lc : Addr} (he : EnvIs env (lawSc G.K) L [("plain", pn), ("filters", fi), ("sums", su), ("gone", go), ("places", pl), ("row", rw'), ("much", mu), ("rows", rs), ("at", at'), ("sizes", si), ("salts", sa), ("wanted", wa)] (.ref 492)) (hf : env.frame = some L) (hfr : A.frames = some [env]) (hK : LawK G ρ d0 d1 rd sz sl nu f0 f1 m0 m1 k0 k1 s0 s1 nl) (hroom : A.depth + 40 < recursionLimit) (hun : A.units + 1000 < cLine) (hh : A.handled = none) (hP : G.prog = PySem.Challenge.pw_sv0017_05) (hl : G.ltabs = [469, 490]) (hg1 : 436 ∈ G.gtabs) (hg2 : 271 ∈ G.gtabs) (hgp : G.gensP = AllBare) (hm00 : 0 < m0) (hm10 : 0 < m1) (hm01 : m0 ≤ 1000) (hm11 : m1 ≤ 1000) (hk00 : 0 < k0) (hk10 : 0 < k1) (hk01 : k0 ≤ m0) (hk11 : k1 ≤ m1) (hw : 0 < w) (hw1 : w ≤ 1000) (hh0 : hashNo m0 w = k0) (hl0 : ns0.length = m0) (hl1 : ns1.length = m1) (hb0 : ∀ v ∈ ns0, 0 ≤ v ∧ v ≤ U32) (hb1 : ∀ v ∈ ns1, 0 ≤ v ∧ v ≤ U32) (hmk : m0 = m1 → k0 = k1)
    (R : Rep G ((L, isNs [("script", some (.ref sc)), ("n", q1), ("numbers", some (.ref nu)), ("bits", some (Value.int m0 t2)), ("rounds", some (.ref rd)), ("added", some (.ref ad)), ("deed", q2), ("key", q3), ("one", q4), ("least", q5), ("told", q6), ("due", q7), ("alike", some (Value.bool (decide (m0 = m1 ∧ placesOf 116 s0 k0 = placesOf 116 s1 k1)))), ("both", some (.ref lb)), ("common", some (.ref lc)), ("shared", none)]) :: (pn, isCell (none)) :: (fi, isCell (some (.ref fl))) :: (su, isCell (none)) :: (go, isCell (q8)) :: (pl, isCell (q9)) :: (rw', isCell (q10)) :: (mu, isCell (q11)) :: (rs, isCell (some (.ref rl))) :: (at', isCell (q12)) :: (si, isCell (some (.ref sz))) :: (sa, isCell (some (.ref sl))) :: (wa, isCell (some (Value.int w t1))) :: (x0, obj 445 d0 (cbf b0 f0 m0 k0 w n0)) :: (b0, isInts ns0) :: (r0, isInts ns0) :: (x1, obj 445 d1 (cbf b1 f1 m1 k1 w n1)) :: (b1, isInts ns1) :: (r1, isInts ns1) :: (fl, isLst [.ref x0, .ref x1]) :: (rl, isLst [.ref r0, .ref r1]) :: (ad, isInts [n0, n1]) :: (490, isTab ps) :: ρ) s)
    (hO1 : OutU G ρ lb (k0 = k1 ∧ m0 = m1 ∧ placesOf 116 s0 k0 = placesOf 116 s1 k1) (sumsOf ns0 ns1) m0 k0 w) (hO2 : OutU G ρ lc (k0 = k1 ∧ m0 = m1 ∧ placesOf 116 s0 k0 = placesOf 116 s1 k1) (commOf ns0 ns1) m0 k0 w)
    (k : ∀ q13 q14 q15 q16 q17 s', Rep G ((L, isNs [("script", some (.ref sc)), ("n", q1), ("numbers", some (.ref nu)), ("bits", some (Value.int m0 t2)), ("rounds", some (.ref rd)), ("added", some (.ref ad)), ("deed", q2), ("key", q3), ("one", q4), ("least", q5), ("told", q6), ("due", q7), ("alike", q13), ("both", q14), ("common", q15), ("shared", q16)]) :: (pn, isCell (none)) :: (fi, isCell (some (.ref fl))) :: (su, isCell (q17)) :: (go, isCell (q8)) :: (pl, isCell (q9)) :: (rw', isCell (q10)) :: (mu, isCell (q11)) :: (rs, isCell (some (.ref rl))) :: (at', isCell (q12)) :: (si, isCell (some (.ref sz))) :: (sa, isCell (some (.ref sl))) :: (wa, isCell (some (Value.int w t1))) :: (x0, obj 445 d0 (cbf b0 f0 m0 k0 w n0)) :: (b0, isInts ns0) :: (r0, isInts ns0) :: (x1, obj 445 d1 (cbf b1 f1 m1 k1 w n1)) :: (b1, isInts ns1) :: (r1, isInts ns1) :: (fl, isLst [.ref x0, .ref x1]) :: (rl, isLst [.ref r0, .ref r1]) :: (ad, isInts [n0, n1]) :: (490, isTab ps) :: ρ) s' → wpAny (model G.prog G.w) A (execs ((lawS G.K).drop 14) env) Q E s') :
    wpAny (model G.prog G.w) A (execs ((lawS G.K).drop 13) env) Q E s := by
  have he1 := he
  conv at he1 => arg 2; whnf
  refine wpAny_execs_cons ?_
  walk_at "b_go"
  by_cases hB : m0 = m1 ∧ placesOf 116 s0 k0 = placesOf 116 s1 k1
  rotate_left
  · have hns : ¬ (k0 = k1 ∧ m0 = m1 ∧ placesOf 116 s0 k0 = placesOf 116 s1 k1) := fun q => hB q.2
    rw [if_pos (by rw [decide_eq_false hB]; rfl)]
    rcases hO1 with ⟨_, tb, hb⟩ | ⟨q, _⟩ | ⟨q, _⟩
    rotate_left
    · exact absurd q hns
    · exact absurd q hns
    rcases hO2 with ⟨_, tc, hc⟩ | ⟨q, _⟩ | ⟨q, _⟩
    rotate_left
    · exact absurd q hns
    · exact absurd q hns
    walk_at "b_go"
    refine w_List ?_
    walk_at "b_go"
    refine ⟨by show 1 ≤ sizeLine; decide, _, by assumption, fun l₁ s₂ R₂ => ?_⟩
    refine w_neS1 (l := lb) (l' := l₁) R₂ (by walk_at "b_mem") (by walk_at "b_mem") (by omega) (by decide +kernel) ?_
    walk_at "b_go"
    refine w_List ?_
    walk_at "b_go"
    refine ⟨by show 1 ≤ sizeLine; decide, _, by assumption, fun l₂ s₃ R₃ => ?_⟩
    refine w_neS1 (l := lc) (l' := l₂) R₃ (by walk_at "b_mem") (by walk_at "b_mem") (by omega) (by decide +kernel) ?_
    iterate 6 walk_at "b_st"
    refine k (some (Value.bool (decide (m0 = m1 ∧ placesOf 116 s0 k0 = placesOf 116 s1 k1)))) (some (.ref lb)) (some (.ref lc)) none none _ ?_
    exact Rep.sel (by assumption) (by walk_at "b_sel")
  rw [if_neg (by rw [decide_eq_true hB]; decide)]
  have hs : (k0 = k1 ∧ m0 = m1 ∧ placesOf 116 s0 k0 = placesOf 116 s1 k1) := ⟨hmk hB.1, hB⟩
  have hlen : ns1.length = m0 := by rw [hl1, hB.1]
  refine wpAny_execs_cons ?_
  refine x_AssignCellComp he1 ?_
  refine w_ListComp (fun o => [(Str.ofString ".0", none), (Str.ofString "place", o)]) none hh he1 rfl ?_
  walk_at "b_go"
  refine w_iterRange (n := m0) (by assumption) (by walk_at "b_mem") (by omega) (by omega) (by omega) (fun it s₂ hn₂ R₂ => ?_)
  refine ⟨it, _, m0, _, _, _, fun i acc σ' => σ' = (L, isNs [("script", some (.ref sc)), ("n", q1), ("numbers", some (.ref nu)), ("bits", some (Value.int m0 t2)), ("rounds", some (.ref rd)), ("added", some (.ref ad)), ("deed", q2), ("key", q3), ("one", q4), ("least", q5), ("told", q6), ("due", q7), ("alike", some (Value.bool (decide (m0 = m1 ∧ placesOf 116 s0 k0 = placesOf 116 s1 k1)))), ("both", some (.ref lb)), ("common", some (.ref lc)), ("shared", none)]) :: (pn, isCell (none)) :: (fi, isCell (some (.ref fl))) :: (su, isCell (none)) :: (go, isCell (q8)) :: (pl, isCell (q9)) :: (rw', isCell (q10)) :: (mu, isCell (q11)) :: (rs, isCell (some (.ref rl))) :: (at', isCell (q12)) :: (si, isCell (some (.ref sz))) :: (sa, isCell (some (.ref sl))) :: (wa, isCell (some (Value.int w t1))) :: (x0, obj 445 d0 (cbf b0 f0 m0 k0 w n0)) :: (b0, isInts ns0) :: (r0, isInts ns0) :: (x1, obj 445 d1 (cbf b1 f1 m1 k1 w n1)) :: (b1, isInts ns1) :: (r1, isInts ns1) :: (fl, isLst [.ref x0, .ref x1]) :: (rl, isLst [.ref r0, .ref r1]) :: (ad, isInts [n0, n1]) :: (490, isTab ps) :: ρ ∧ IntsAre acc ((List.range i).map (fun i => ns0.getD i 0 + ns1.getD i 0)), rfl, Iter.range hn₂ _ _ _, R₂.sel (by walk_at "b_sel"), ⟨rfl, .nil⟩, fun _ _ _ _ => trivial, by rw [sizeLine_eq]; omega, ?_, ?_⟩
  · rintro E' C D' cenv o i acc σ' s₃ v' he' hi ⟨t', rfl⟩ ⟨rfl, hacc⟩ R₃
    have hti : (0 + (i : Int) * 1) = i := by omega
    rw [hti] at *
    walk_at "b_go"
    refine w_item (v := .ref r0) (by assumption) (by walk_at "b_mem") (by decide) rfl (by decide) ?_
    walk_at "b_go"
    refine w_itemI (n := ns0.getD i 0) (by assumption) (by walk_at "b_mem") (by omega) (get_getD (by simp; omega)) (by omega) (fun _ => ?_)
    walk_at "b_go"
    refine w_item (v := .ref r1) (by assumption) (by walk_at "b_mem") (by decide) rfl (by decide) ?_
    walk_at "b_go"
    refine w_itemI (n := ns1.getD i 0) (by assumption) (by walk_at "b_mem") (by omega) (get_getD (by simp; omega)) (by omega) (fun _ => ?_)
    walk_at "b_go"
    refine ⟨_, _, by assumption, rfl, ?_⟩
    rw [List.range_succ, List.map_append]
    exact ints_snoc hacc _ _
  rintro ds acc σ' s₃ ⟨rfl, hacc⟩ R₃
  rw [sums_row hl0 hlen] at hacc
  replace R₃ := R₃.toInts hacc
  walk_at "b_go"
  refine w_AssignComp (fun o => [(Str.ofString ".0", none), (Str.ofString "place", o)]) none hh he1 rfl ?_
  walk_at "b_go"
  refine w_iterRange (n := m0) (by assumption) (by walk_at "b_mem") (by omega) (by omega) (by omega) (fun it₂ s₄ hn₄ R₄ => ?_)
  refine ⟨it₂, _, m0, _, _, _, fun i acc σ' => σ' = (ds, isInts (sumsOf ns0 ns1)) :: (L, isNs [("script", some (.ref sc)), ("n", q1), ("numbers", some (.ref nu)), ("bits", some (Value.int m0 t2)), ("rounds", some (.ref rd)), ("added", some (.ref ad)), ("deed", q2), ("key", q3), ("one", q4), ("least", q5), ("told", q6), ("due", q7), ("alike", some (Value.bool (decide (m0 = m1 ∧ placesOf 116 s0 k0 = placesOf 116 s1 k1)))), ("both", some (.ref lb)), ("common", some (.ref lc)), ("shared", none)]) :: (pn, isCell (none)) :: (fi, isCell (some (.ref fl))) :: (su, isCell (some (.ref ds))) :: (go, isCell (q8)) :: (pl, isCell (q9)) :: (rw', isCell (q10)) :: (mu, isCell (q11)) :: (rs, isCell (some (.ref rl))) :: (at', isCell (q12)) :: (si, isCell (some (.ref sz))) :: (sa, isCell (some (.ref sl))) :: (wa, isCell (some (Value.int w t1))) :: (x0, obj 445 d0 (cbf b0 f0 m0 k0 w n0)) :: (b0, isInts ns0) :: (r0, isInts ns0) :: (x1, obj 445 d1 (cbf b1 f1 m1 k1 w n1)) :: (b1, isInts ns1) :: (r1, isInts ns1) :: (fl, isLst [.ref x0, .ref x1]) :: (rl, isLst [.ref r0, .ref r1]) :: (ad, isInts [n0, n1]) :: (490, isTab ps) :: ρ ∧ IntsAre acc ((List.range i).map (fun i => if 0 < ns0.getD i 0 ∧ 0 < ns1.getD i 0 then ns0.getD i 0 + ns1.getD i 0 else 0)), rfl, Iter.range hn₄ _ _ _, R₄.sel (by walk_at "b_sel"), ⟨rfl, .nil⟩, fun _ _ _ _ => trivial, by rw [sizeLine_eq]; omega, ?_, ?_⟩
  · rintro E' C D' cenv o i acc σ' s₅ v' he' hi ⟨t', rfl⟩ ⟨rfl, hacc2⟩ R₅
    have hti : (0 + (i : Int) * 1) = i := by omega
    rw [hti] at *
    walk_at "b_go"
    refine w_item (v := .ref r0) (by assumption) (by walk_at "b_mem") (by decide) rfl (by decide) ?_
    walk_at "b_go"
    refine w_itemI (n := ns0.getD i 0) (by assumption) (by walk_at "b_mem") (by omega) (get_getD (by simp; omega)) (by omega) (fun _ => ?_)
    walk_at "b_go"
    refine ite_dec (fun g1 => ?_) (fun g1 => ?_)
    · walk_at "b_go"
      refine w_item (v := .ref r1) (by assumption) (by walk_at "b_mem") (by decide) rfl (by decide) ?_
      walk_at "b_go"
      refine w_itemI (n := ns1.getD i 0) (by assumption) (by walk_at "b_mem") (by omega) (get_getD (by simp; omega)) (by omega) (fun _ => ?_)
      walk_at "b_go"
      refine ite_dec (fun g2 => ?_) (fun g2 => ?_)
      · walk_at "b_go"
        refine w_itemI (n := ns0.getD i 0 + ns1.getD i 0) (by assumption) (by walk_at "b_mem") (by omega) (by rw [Int.toNat_natCast]; exact sumsOf_get (get_getD (by omega)) (get_getD (by omega))) (by omega) (fun _ => ?_)
        refine ⟨_, _, by assumption, rfl, ?_⟩
        rw [List.range_succ, List.map_append]
        simp only [List.map_cons, List.map_nil]
        rw [if_pos ⟨g1, g2⟩]
        exact ints_snoc hacc2 _ _
      · walk_at "b_go"
        refine ⟨_, _, by assumption, rfl, ?_⟩
        rw [List.range_succ, List.map_append]
        simp only [List.map_cons, List.map_nil]
        rw [if_neg (fun q => g2 q.2)]
        exact ints_snoc hacc2 _ _
    · walk_at "b_go"
      refine ⟨_, _, by assumption, rfl, ?_⟩
      rw [List.range_succ, List.map_append]
      simp only [List.map_cons, List.map_nil]
      rw [if_neg (fun q => g1 q.1)]
      exact ints_snoc hacc2 _ _
  rintro dc acc2 σ' s₅ ⟨rfl, hacc2⟩ R₅
  rw [comm_row hl0 hlen] at hacc2
  refine ⟨_, _, (ds, isInts (sumsOf ns0 ns1)) :: (L, isNs [("script", some (.ref sc)), ("n", q1), ("numbers", some (.ref nu)), ("bits", some (Value.int m0 t2)), ("rounds", some (.ref rd)), ("added", some (.ref ad)), ("deed", q2), ("key", q3), ("one", q4), ("least", q5), ("told", q6), ("due", q7), ("alike", some (Value.bool (decide (m0 = m1 ∧ placesOf 116 s0 k0 = placesOf 116 s1 k1)))), ("both", some (.ref lb)), ("common", some (.ref lc)), ("shared", some (.ref dc))]) :: (pn, isCell (none)) :: (fi, isCell (some (.ref fl))) :: (su, isCell (some (.ref ds))) :: (go, isCell (q8)) :: (pl, isCell (q9)) :: (rw', isCell (q10)) :: (mu, isCell (q11)) :: (rs, isCell (some (.ref rl))) :: (at', isCell (q12)) :: (si, isCell (some (.ref sz))) :: (sa, isCell (some (.ref sl))) :: (wa, isCell (some (Value.int w t1))) :: (x0, obj 445 d0 (cbf b0 f0 m0 k0 w n0)) :: (b0, isInts ns0) :: (r0, isInts ns0) :: (x1, obj 445 d1 (cbf b1 f1 m1 k1 w n1)) :: (b1, isInts ns1) :: (r1, isInts ns1) :: (fl, isLst [.ref x0, .ref x1]) :: (rl, isLst [.ref r0, .ref r1]) :: (ad, isInts [n0, n1]) :: (490, isTab ps) :: ρ, by walk_at "b_upd", by walk_at "b_put", fun s₆ R₆ => ?_⟩
  replace R₆ := R₆.toInts hacc2
  clear R₅ R₄ R₃ R₂ R
  have hne1 : sumsOf ns0 ns1 ≠ [] := fun q => by have := sumsOf_len (ns := ns0) (ns' := ns1) (by omega); rw [q] at this; simp at this; omega
  have hne2 : commOf ns0 ns1 ≠ [] := fun q => by have := commOf_len (ns := ns0) (ns' := ns1) (by omega); rw [q] at this; simp at this; omega
  walk_at "b_go"
  refine x_callM (sp_joined (by assumption) (hO1.mono (by repeat (first | exact Sub.refl | apply Sub.cons))) hs (by walk_at "b_mem") hne1 (by omega) (by omega) hh (fun s₇ R₇ => ?_))
  walk_at "b_go"
  refine x_callM (sp_joined (by assumption) (hO2.mono (by repeat (first | exact Sub.refl | apply Sub.cons))) hs (by walk_at "b_mem") hne2 (by omega) (by omega) hh (fun s₈ R₈ => ?_))
  iterate 6 walk_at "b_st"
  refine k (some (Value.bool (decide (m0 = m1 ∧ placesOf 116 s0 k0 = placesOf 116 s1 k1)))) (some (.ref lb)) (some (.ref lc)) (some (.ref dc)) (some (.ref ds)) _ ?_
  exact Rep.sel (by assumption) (by walk_at "b_sel")
end
end Bl


namespace Bl
section
variable {G : Gd hd.heap_39} {A : Around} {E : Value → Shared → Prop} {σ τ : Led} {s : Shared} {env : Env}

theorem law_C4 {L pn fi su go pl rw' mu rs at' si sa wa sc nu sz sl rd fl rl ad x0 d0 b0 f0 x1 d1 b1 f1 r0 r1 : Addr} {t1 t2 : Tok} {q1 q2 q3 q4 q5 q6 q7 q8 q9 q10 q11 q12 : Option Value} {nl ns0 ns1 : List Int} {m0 m1 k0 k1 w : Nat} {s0 s1 n0 n1 : Int} {ρ : Led} {ps : Array Value} {Q : Flow → Shared → Prop} {q13 q14 q15 q16 q17 : Option Value} (he : EnvIs env (lawSc G.K) L [("plain", pn), ("filters", fi), ("sums", su), ("gone", go), ("places", pl), ("row", rw'), ("much", mu), ("rows", rs), ("at", at'), ("sizes", si), ("salts", sa), ("wanted", wa)] (.ref 492)) (hf : env.frame = some L) (hfr : A.frames = some [env]) (hK : LawK G ρ d0 d1 rd sz sl nu f0 f1 m0 m1 k0 k1 s0 s1 nl) (hroom : A.depth + 40 < recursionLimit) (hun : A.units + 1000 < cLine) (hh : A.handled = none) (hP : G.prog = PySem.Challenge.pw_sv0017_05) (hl : G.ltabs = [469, 490]) (hg1 : 436 ∈ G.gtabs) (hg2 : 271 ∈ G.gtabs) (hgp : G.gensP = AllBare) (hm00 : 0 < m0) (hm10 : 0 < m1) (hm01 : m0 ≤ 1000) (hm11 : m1 ≤ 1000) (hk00 : 0 < k0) (hk10 : 0 < k1) (hk01 : k0 ≤ m0) (hk11 : k1 ≤ m1) (hw : 0 < w) (hw1 : w ≤ 1000) (hh0 : hashNo m0 w = k0) (hl0 : ns0.length = m0) (hl1 : ns1.length = m1) (hb0 : ∀ v ∈ ns0, 0 ≤ v ∧ v ≤ U32) (hb1 : ∀ v ∈ ns1, 0 ≤ v ∧ v ≤ U32) (hmk : m0 = m1 → k0 = k1)
    (R : Rep G ((L, isNs [("script", some (.ref sc)), ("n", q1), ("numbers", some (.ref nu)), ("bits", some (Value.int m0 t2)), ("rounds", some (.ref rd)), ("added", some (.ref ad)), ("deed", q2), ("key", q3), ("one", q4), ("least", q5), ("told", q6), ("due", q7), ("alike", q13), ("both", q14), ("common", q15), ("shared", q16)]) :: (pn, isCell (none)) :: (fi, isCell (some (.ref fl))) :: (su, isCell (q17)) :: (go, isCell (q8)) :: (pl, isCell (q9)) :: (rw', isCell (q10)) :: (mu, isCell (q11)) :: (rs, isCell (some (.ref rl))) :: (at', isCell (q12)) :: (si, isCell (some (.ref sz))) :: (sa, isCell (some (.ref sl))) :: (wa, isCell (some (Value.int w t1))) :: (x0, obj 445 d0 (cbf b0 f0 m0 k0 w n0)) :: (b0, isInts ns0) :: (r0, isInts ns0) :: (x1, obj 445 d1 (cbf b1 f1 m1 k1 w n1)) :: (b1, isInts ns1) :: (r1, isInts ns1) :: (fl, isLst [.ref x0, .ref x1]) :: (rl, isLst [.ref r0, .ref r1]) :: (ad, isInts [n0, n1]) :: (490, isTab ps) :: ρ) s) (hps : TabLt ps 379)
    (k : ∀ σ' s' p p', Rep G σ' s' → Holds G σ' 469 (isTab p) → Holds G σ' 490 (isTab p') → Q (.ret (.bool true)) s') :
    wpAny (model G.prog G.w) A (execs ((lawS G.K).drop 14) env) Q E s := by
  have he1 := he
  conv at he1 => arg 2; whnf
  have hd0 := hK.d0
  have hd1 := hK.d1
  refine wpAny_execs_cons ?_
  walk_at "b_go"
  refine x_callM (sp_newB (by assumption) (by omega) hh hw hw1 hm01 (by rw [hh0]; omega) (fun xp dp svs s₁ R₁ => ?_))
  walk_at "b_go"
  refine w_lambda (P := 490) (by assumption) he1 rfl (fun _ => by walk_at "b_upd") (tabOff (by rw [hl]; decide)) hps.1 (hps.2 _ (by decide)) (by kernel_rfl) (fun fd c' s₂ R₂ => ?_)
  replace hps := hps.snoc (pos := ⟨390, 0, 390, 31⟩) (c := .ref c') (by decide)
  walk_at "b_go"
  refine x_callM (sp_try (fd := fd) (D := fun v σ1 => False) (DE := fun c => c = .type "TypeError") R₂
      ⟨⟨_, .head, fun o ⟨pm, ctv, e⟩ => ⟨_, congrArg Obj.data e⟩⟩, ?_⟩ (fun c hc => .inr (.inl hc)) (by omega) hh hfr (framesIn1 he.kind hf (by walk_at "b_in"))
      (fun v σ1 l s₃ hD R₃ => hD.elim) (fun hE l t s₃ R₃ => ?_) (fun hE l t s₃ R₃ => ?_) (fun hE l t s₃ R₃ => ?_))
  · intro A' p s outer R' hd hu hh' hfr' hF' R hok herr
    refine c_lam [] [] R (by walk_at "b_mem") (by walk_at "b_mem") (by omega) (fun _ _ => rfl) (fun L' s₃ env' R₃ he2 hf2 hfn2 => ?_)
    walk_at "b_go"
    refine w_item (v := .ref x0) (by assumption) (by walk_at "b_mem") (by decide) rfl (by decide) ?_
    walk_at "b_go"
    have hFs := hF'.push (ρ := []) he2.kind hf2
    refine x_callM (sp_unionB (by assumption) (by walk_at "b_mem") (by walk_at "b_mem") (by rw [dd]; omega) hh' (Around.frames_deeper hfr') hFs (fun e T s₄ hT R₄ => ?_))
    refine w_leavingT R₄ hT (Around.frames_deeper hfr') hFs (fun T' s₅ hT' R₅ => ?_)
    exact herr _ e T' s₅ rfl hT' (R₅.sel (by walk_at "b_sel"))
  · cases hE
  rotate_left
  · exact absurd hE (by decide)
  walk_at "b_go"
  refine w_List ?_
  walk_at "b_go"
  refine ⟨by show 1 ≤ sizeLine; decide, _, by assumption, fun l₁ s₄ R₄ => ?_⟩
  refine w_neS1 (l := l) (l' := l₁) R₄ (by walk_at "b_mem") (by walk_at "b_mem") (by omega) (by decide +kernel) ?_
  clear R₃ R₂
  walk_at "b_go"
  refine w_lambda (P := 490) (by assumption) he1 rfl (fun _ => by walk_at "b_upd") (tabOff (by rw [hl]; decide)) hps.1 (hps.2 _ (by decide)) (by kernel_rfl) (fun fd c' s₂ R₂ => ?_)
  replace hps := hps.snoc (pos := ⟨391, 0, 391, 38⟩) (c := .ref c') (by decide)
  walk_at "b_go"
  refine x_callM (sp_try (fd := fd) (D := fun v σ1 => False) (DE := fun c => c = .type "TypeError") R₂
      ⟨⟨_, .head, fun o ⟨pm, ctv, e⟩ => ⟨_, congrArg Obj.data e⟩⟩, ?_⟩ (fun c hc => .inr (.inl hc)) (by omega) hh hfr (framesIn1 he.kind hf (by walk_at "b_in"))
      (fun v σ1 l s₃ hD R₃ => hD.elim) (fun hE l t s₃ R₃ => ?_) (fun hE l t s₃ R₃ => ?_) (fun hE l t s₃ R₃ => ?_))
  · intro A' p s outer R' hd hu hh' hfr' hF' R hok herr
    refine c_lam [] [] R (by walk_at "b_mem") (by walk_at "b_mem") (by omega) (fun _ _ => rfl) (fun L' s₃ env' R₃ he2 hf2 hfn2 => ?_)
    walk_at "b_go"
    refine w_item (v := .ref x1) (by assumption) (by walk_at "b_mem") (by decide) rfl (by decide) ?_
    walk_at "b_go"
    have hFs := hF'.push (ρ := []) he2.kind hf2
    refine x_callM (sp_interB (by assumption) (by walk_at "b_mem") (by walk_at "b_mem") (by rw [dd]; omega) hh' (Around.frames_deeper hfr') hFs (fun e T s₄ hT R₄ => ?_))
    refine w_leavingT R₄ hT (Around.frames_deeper hfr') hFs (fun T' s₅ hT' R₅ => ?_)
    exact herr _ e T' s₅ rfl hT' (R₅.sel (by walk_at "b_sel"))
  · cases hE
  rotate_left
  · exact absurd hE (by decide)
  walk_at "b_go"
  refine w_List ?_
  walk_at "b_go"
  refine ⟨by show 1 ≤ sizeLine; decide, _, by assumption, fun l₁ s₄ R₄ => ?_⟩
  refine w_neS1 (l := l) (l' := l₁) R₄ (by walk_at "b_mem") (by walk_at "b_mem") (by omega) (by decide +kernel) ?_
  clear R₃ R₂
  walk_at "b_go"
  refine w_ListComp (fun o => [(Str.ofString ".0", none), (Str.ofString "one", o)]) none hh he1 rfl ?_
  walk_at "b_go"
  refine w_iterList (vs := [.ref x0, .ref x1]) (by assumption) (by walk_at "b_mem") (fun it s₂ hn₂ R₂ => ?_)
  refine ⟨it, _, 2, _, _, _, fun i acc σ' => (∃ tb, σ' = (L, isNs [("script", some (.ref sc)), ("n", q1), ("numbers", some (.ref nu)), ("bits", some (Value.int m0 t2)), ("rounds", some (.ref rd)), ("added", some (.ref ad)), ("deed", q2), ("key", q3), ("one", q4), ("least", q5), ("told", q6), ("due", q7), ("alike", q13), ("both", q14), ("common", q15), ("shared", q16)]) :: (pn, isCell (some (.ref xp))) :: (fi, isCell (some (.ref fl))) :: (su, isCell (q17)) :: (go, isCell (q8)) :: (pl, isCell (q9)) :: (rw', isCell (q10)) :: (mu, isCell (q11)) :: (rs, isCell (some (.ref rl))) :: (at', isCell (q12)) :: (si, isCell (some (.ref sz))) :: (sa, isCell (some (.ref sl))) :: (wa, isCell (some (Value.int w t1))) :: (x0, obj 445 d0 (cbf b0 f0 m0 k0 w n0)) :: (b0, isInts ns0) :: (r0, isInts ns0) :: (x1, obj 445 d1 (cbf b1 f1 m1 k1 w n1)) :: (b1, isInts ns1) :: (r1, isInts ns1) :: (fl, isLst [.ref x0, .ref x1]) :: (rl, isLst [.ref r0, .ref r1]) :: (ad, isInts [n0, n1]) :: (490, isTab tb) :: ρ) ∧ (i = 0 ∧ acc = [] ∨ i = 1 ∧ acc = [.ref b0] ∨ i = 2 ∧ acc = [.ref b0, .ref b1]), rfl, Iter.list (vs := [.ref x0, .ref x1]) hn₂, R₂.sel (by walk_at "b_sel"), ⟨⟨_, rfl⟩, .inl ⟨rfl, rfl⟩⟩, fun _ _ σ' h => by obtain ⟨⟨tb, rfl⟩, _⟩ := h; walk_at "b_mem", by rw [sizeLine_eq]; decide, ?_, ?_⟩
  · rintro E' C D' cenv o i acc σ' s₃ v' he' hi hv ⟨⟨tb, rfl⟩, ⟨rfl, rfl⟩ | ⟨rfl, rfl⟩ | ⟨rfl, rfl⟩⟩ R₃
    · obtain rfl : v' = .ref x0 := by simpa using hv.symm
      walk_at "b_go"
      exact ⟨_, _, by assumption, ⟨_, rfl⟩, .inr (.inl ⟨rfl, rfl⟩)⟩
    · obtain rfl : v' = .ref x1 := by simpa using hv.symm
      walk_at "b_go"
      exact ⟨_, _, by assumption, ⟨_, rfl⟩, .inr (.inr ⟨rfl, rfl⟩)⟩
    · exact absurd hi (by decide)
  rintro D₁ acc σ' s₃ ⟨⟨tb, rfl⟩, ⟨h0, _⟩ | ⟨h0, _⟩ | ⟨_, rfl⟩⟩ R₃
  · exact absurd h0 (by decide)
  · exact absurd h0 (by decide)
  walk_at "b_go"
  refine w_eqLL (l := D₁) (a := b0) (b := b1) (l' := rl) (a' := r0) (b' := r1) (ns := ns0) (ms := ns1) (by assumption) (by walk_at "b_mem") (by walk_at "b_mem") (by walk_at "b_mem") (by walk_at "b_mem") (by walk_at "b_mem") (by walk_at "b_mem") (by omega) ?_
  walk_at "b_go"
  refine w_ListComp (fun o => [(Str.ofString ".0", none), (Str.ofString "one", o)]) none hh he1 rfl ?_
  walk_at "b_go"
  refine w_iterList (vs := [.ref x0, .ref x1]) (by assumption) (by walk_at "b_mem") (fun it₂ s₄ hn₄ R₄ => ?_)
  refine ⟨it₂, _, 2, _, _, _, fun i acc σ' => (∃ tb, σ' = (L, isNs [("script", some (.ref sc)), ("n", q1), ("numbers", some (.ref nu)), ("bits", some (Value.int m0 t2)), ("rounds", some (.ref rd)), ("added", some (.ref ad)), ("deed", q2), ("key", q3), ("one", q4), ("least", q5), ("told", q6), ("due", q7), ("alike", q13), ("both", q14), ("common", q15), ("shared", q16)]) :: (pn, isCell (some (.ref xp))) :: (fi, isCell (some (.ref fl))) :: (su, isCell (q17)) :: (go, isCell (q8)) :: (pl, isCell (q9)) :: (rw', isCell (q10)) :: (mu, isCell (q11)) :: (rs, isCell (some (.ref rl))) :: (at', isCell (q12)) :: (si, isCell (some (.ref sz))) :: (sa, isCell (some (.ref sl))) :: (wa, isCell (some (Value.int w t1))) :: (x0, obj 445 d0 (cbf b0 f0 m0 k0 w n0)) :: (b0, isInts ns0) :: (r0, isInts ns0) :: (x1, obj 445 d1 (cbf b1 f1 m1 k1 w n1)) :: (b1, isInts ns1) :: (r1, isInts ns1) :: (fl, isLst [.ref x0, .ref x1]) :: (rl, isLst [.ref r0, .ref r1]) :: (ad, isInts [n0, n1]) :: (490, isTab tb) :: ρ) ∧ IntsAre acc ([n0, n1].take i), rfl, Iter.list (vs := [.ref x0, .ref x1]) hn₄, R₄.sel (by walk_at "b_sel"), ⟨⟨_, rfl⟩, .nil⟩, fun _ _ σ' h => by obtain ⟨⟨tb, rfl⟩, _⟩ := h; walk_at "b_mem", by rw [sizeLine_eq]; decide, ?_, ?_⟩
  · rintro E' C D' cenv o i acc σ' s₅ v' he' hi hv ⟨⟨tb, rfl⟩, hacc⟩ R₅
    have hi2 : i = 0 ∨ i = 1 := by have : i < 2 := hi; omega
    rcases hi2 with rfl | rfl
    · obtain rfl : v' = .ref x0 := by simpa using hv.symm
      walk_at "b_go"
      exact ⟨_, _, by assumption, ⟨_, rfl⟩, ints_snoc hacc n0 _⟩
    · obtain rfl : v' = .ref x1 := by simpa using hv.symm
      walk_at "b_go"
      exact ⟨_, _, by assumption, ⟨_, rfl⟩, ints_snoc hacc n1 _⟩
  rintro D₂ acc σ' s₅ ⟨⟨tb2, rfl⟩, hacc⟩ R₅
  replace R₅ := R₅.toInts hacc
  walk_at "b_go"
  refine w_eqI (l := D₂) (l' := ad) (by assumption) (by walk_at "b_mem") (by walk_at "b_mem") (by omega) ?_
  rw [decide_eq_true (show [n0, n1].take 2 = [n0, n1] from rfl)]
  obtain ⟨pt, hpt⟩ := hK.tab
  exact k _ _ pt _ (by assumption) (by walk_at "b_mem") (by walk_at "b_mem")
end
end Bl


namespace Bl
section
variable {G : Gd hd.heap_39} {A : Around} {E : Value → Shared → Prop} {σ τ : Led} {s : Shared} {env : Env}
theorem rounds_ok : ∀ w : Fin 12, ∀ d : Fin 25, hashNo ((w.val + 1 + (d.val + 1) : Nat) : Int) ((w.val + 1 : Nat) : Int) = (roundsOf (w.val + 1 + (d.val + 1)) (w.val + 1) : Int) ∧ 0 < roundsOf (w.val + 1 + (d.val + 1)) (w.val + 1) ∧ roundsOf (w.val + 1 + (d.val + 1)) (w.val + 1) ≤ w.val + 1 + (d.val + 1) := by decide +kernel
theorem rounds_at {m w : Nat} (h0 : 0 < w) (h1 : w ≤ 12) (h2 : w < m) (h3 : m ≤ w + 25) : hashNo m w = (roundsOf m w : Int) ∧ 0 < roundsOf m w ∧ roundsOf m w ≤ m := by
  have h := rounds_ok ⟨w - 1, by omega⟩ ⟨m - w - 1, by omega⟩
  dsimp only at h
  rw [show w - 1 + 1 = w by omega, show w + (m - w - 1 + 1) = m by omega] at h
  exact h
theorem nums_two (xs : List Int) : ∃ a0 a1 nr, nums xs = a0 :: a1 :: nr := by
  unfold nums
  generalize (xs.take 20).map (fun n => n.fmod 1000003) = ys
  match ys with
  | [] => exact ⟨_, _, _, rfl⟩
  | [y] => exact ⟨_, _, _, rfl⟩
  | y :: z :: r => exact ⟨_, _, _, rfl⟩
theorem wOf_bd (a0 : Int) : 0 < wOf a0 ∧ wOf a0 ≤ 12 := by
  have h1 := Int.fmod_nonneg_of_pos (a0.fdiv 24) (show (0 : Int) < 12 by decide)
  have h2 := Int.fmod_lt_of_pos (a0.fdiv 24) (show (0 : Int) < 12 by decide)
  have h3 := wOf_eq a0
  omega
theorem mOf_bd (a0 : Int) : wOf a0 < mOf a0 ∧ mOf a0 ≤ wOf a0 + 24 := by
  have h1 := Int.fmod_nonneg_of_pos a0 (show (0 : Int) < 24 by decide)
  have h2 := Int.fmod_lt_of_pos a0 (show (0 : Int) < 24 by decide)
  have h3 := mOf_eq a0
  omega
theorem m1Of_bd (a0 a1 : Int) : wOf a0 < m1Of a0 a1 ∧ m1Of a0 a1 ≤ wOf a0 + 25 := by
  have h := mOf_bd a0
  unfold m1Of
  split <;> omega
theorem sp_law {sc : Addr} {xs : List Int} {R' : Result → Shared → Prop} (R : Rep G ((469, isTab #[]) :: (490, isTab #[]) :: τ) s) (hS : Holds G τ sc (isInts xs)) (hxs : xs.length ≤ 1000)
    (hroom : A.depth + 60 < recursionLimit) (hun : A.units + 1100 < cLine) (hh : A.handled = none) (hfr : A.frames = some []) (hP : G.prog = PySem.Challenge.pw_sv0017_05) (hl : G.ltabs = [469, 490])
    (hg0 : 401 ∈ G.gtabs) (hg1 : 436 ∈ G.gtabs) (hg2 : 271 ∈ G.gtabs) (hgp : G.gensP = AllBare)
    (h : ∀ σ' s' p p', Rep G σ' s' → Holds G σ' 469 (isTab p) → Holds G σ' 490 (isTab p') → R' (.ok (.ret (.bool true))) s') :
    codeAny (model G.prog G.w) A (.call (.ref 493) ⟨[.ref sc], []⟩) R' s := by
  refine c_KC [("script", .ref sc)] [("script", some (.ref sc)), ("n", none), ("numbers", none), ("bits", none), ("rounds", none), ("added", none), ("deed", none), ("key", none), ("one", none), ("least", none), ("told", none), ("due", none), ("alike", none), ("both", none), ("common", none), ("shared", none)] ["plain", "filters", "sums", "gone", "places", "row", "much", "rows", "at", "sizes", "salts", "wanted"] R (by omega) rfl (fun _ => BindsTo.of_eq rfl) (fun L s' env cl hcl R he hf hfn => ?_)
  revert cl
  refine cells12 fun pn fi su go pl rw' mu rs at' si sa wa R he => ?_
  replace R : Rep G ((L, isNs [("script", some (.ref sc)), ("n", none), ("numbers", none), ("bits", none), ("rounds", none), ("added", none), ("deed", none), ("key", none), ("one", none), ("least", none), ("told", none), ("due", none), ("alike", none), ("both", none), ("common", none), ("shared", none)]) :: (pn, isCell (none)) :: (fi, isCell (none)) :: (su, isCell (none)) :: (go, isCell (none)) :: (pl, isCell (none)) :: (rw', isCell (none)) :: (mu, isCell (none)) :: (rs, isCell (none)) :: (at', isCell (none)) :: (si, isCell (none)) :: (sa, isCell (none)) :: (wa, isCell (none)) :: (469, isTab #[]) :: (490, isTab #[]) :: τ) s' := R
  obtain ⟨a0, a1, nr, hnx⟩ := nums_two xs
  have hnl : (a0 :: a1 :: nr).length ≤ 1000 := by rw [← hnx]; unfold nums; simp; omega
  obtain ⟨w0, w1⟩ := wOf_bd a0
  obtain ⟨g0, g1⟩ := mOf_bd a0
  obtain ⟨g2, g3⟩ := m1Of_bd a0 a1
  obtain ⟨y0, y1, y2⟩ := rounds_at w0 w1 g0 (by omega)
  obtain ⟨z0, z1, z2⟩ := rounds_at w0 w1 g2 g3
  have hr : (A.deeper env).depth + 40 < recursionLimit := by rw [dd]; omega
  have hu : (A.deeper env).units + 1000 < cLine := by rw [du]; omega
  have hfr' : (A.deeper env).frames = some [env] := Around.frames_deeper hfr
  refine law_A (outer := []) (xs := xs) (a0 := a0) (a1 := a1) (nr := nr) he hf R (hS.tail) hxs hnx (by omega) (by omega) hh hP (fun sz sl nu t1 t2 s₁ R₁ => ?_)
  refine law_A2 (w := wOf a0) (m0 := mOf a0) (m1 := m1Of a0 a1) (s0 := a1.fmod 9) (s1 := tOf a1) (nl := a0 :: a1 :: nr) he R₁ (by omega) (by omega) hh hP hl w0 (by omega) (by omega) (by omega) rfl rfl y0 z0 y1 z1 (fun x0 d0 b0 f0 x1 d1 b1 f1 fl r0 r1 rl ad rd ρ s₂ hK R₂ => ?_)
  refine law_B he hK R₂ hnl (by omega) (by omega) hh hg0 hgp (by omega) (by omega) (by omega) (by omega) y1 z1 y2 z2 (fun q1 q2 q3 q4 q5 q6 q7 q8 q9 q10 q11 q12 n0 n1 ns0 ns1 r0' r1' l2 s₃ hF R₃ => ?_)
  obtain ⟨hl0, hl1, hb0, hb1⟩ := hF
  have hK2 := hK.mono (ρ' := (l2, isInts ((a0 :: a1 :: nr).drop 2)) :: ρ) Sub.refl.cons
  have hmk : mOf a0 = m1Of a0 a1 → roundsOf (mOf a0) (wOf a0) = roundsOf (m1Of a0 a1) (wOf a0) := fun e => by rw [← e]
  refine law_C1 he hf hfr' hK2 hr hu hh hP hl hg1 hg2 hgp (by omega) (by omega) (by omega) (by omega) y1 z1 y2 z2 w0 (by omega) y0 hl0 hl1 hb0 hb1 hmk R₃ (TabLt.nil _) (fun ps lb ρ₁ s₄ hps hs₁ hO₁ R₄ => ?_)
  have hK3 := hK2.mono hs₁
  refine law_C2 he hf hfr' hK3 hr hu hh hP hl hg1 hg2 hgp (by omega) (by omega) (by omega) (by omega) y1 z1 y2 z2 w0 (by omega) y0 hl0 hl1 hb0 hb1 hmk R₄ hps (fun ps₂ lc ρ₂ s₅ hps₂ hs₂ hO₂ R₅ => ?_)
  have hK4 := hK3.mono hs₂
  refine law_C3 he hf hfr' hK4 hr hu hh hP hl hg1 hg2 hgp (by omega) (by omega) (by omega) (by omega) y1 z1 y2 z2 w0 (by omega) y0 hl0 hl1 hb0 hb1 hmk R₅ (hO₁.mono hs₂) hO₂ (fun q13 q14 q15 q16 q17 s₆ R₆ => ?_)
  refine law_C4 he hf hfr' hK4 hr hu hh hP hl hg1 hg2 hgp (by omega) (by omega) (by omega) (by omega) y1 z1 y2 z2 w0 (by omega) y0 hl0 hl1 hb0 hb1 hmk R₆ hps₂ (fun σ' s₇ p p' R₇ hp hp' => ?_)
  exact h σ' s₇ p p' R₇ hp hp'
end
end Bl


namespace Bl
section
variable {w : World} {s₁ : Shared} {mg mb : Str → Option Value}

theorem tab_ne {h : Heap} {P l : Addr} {o : Obj} (hP : h.get? P = some (tabObj #[])) (hl : h.get? l = some o) (hc : o.cls ≠ .none) : l ≠ P := fun q => by
  subst q
  rw [hP] at hl
  cases hl
  exact hc rfl
theorem off5 {h : Heap} {l : Addr} {o : Obj} (Y2 : ∀ P, P ∈ ([469, 490, 401, 436, 271] : List Addr) → h.get? P = some (tabObj #[])) (hl : h.get? l = some o) (hc : o.cls ≠ .none) : l ∉ ([401, 436, 271] : List Addr) ∧ l ∉ ([469, 490] : List Addr) := by
  have a := fun P hP => tab_ne (Y2 P hP) hl hc
  exact ⟨fun q => a l (List.mem_of_mem_drop (i := 2) (show l ∈ List.drop 2 [469, 490, 401, 436, 271] from q)) rfl, fun q => a l (List.mem_of_mem_take (i := 2) (show l ∈ List.take 2 [469, 490, 401, 436, 271] from q)) rfl⟩
theorem offKtabs (P : Params) : ([469, 490, 401, 436, 271] : List Addr).all (fun a => ((hd.heap_39 P).lookup a).isNone) = true := by kernel_rfl
/-- what stands at the call -/
def gd (w : World) (s₁ : Shared) (mg mb : Str → Option Value) (Y1 : (hd.heap_39 w.params).In s₁.heap) (Y2 : ∀ P, P ∈ ([469, 490, 401, 436, 271] : List Addr) → s₁.heap.get? P = some (tabObj #[]))
    (Tg : s₁.heap.Ns mainGlobals mg) (Tb : s₁.heap.Ns builtinsNs mb) (Tl : s₁.heap.NoLimit) (Tbi : ∀ x : Str, x ≠ "__name__" → mb x = bootBuiltins x)
    (Tbm : ∃ bm ob, mg "__builtins__" = some (.ref bm) ∧ bm ≠ builtinsNs ∧ s₁.heap.get? bm = some ob ∧ ob.cls = .type "module" ∧ ob.dict = some builtinsNs ∧ ob.data = .plain) : Gd hd.heap_39 where
  prog := PySem.Challenge.pw_sv0017_05
  w := w
  base := s₁.heap
  osb := s₁.os
  drawnb := s₁.drawn
  gensP := AllBare
  gtabs := [401, 436, 271]
  ltabs := [469, 490]
  mg := mg
  mb := mb
  inKF := Y1
  offK := fun a o e => by
    have hn : a ∉ ([469, 490, 401, 436, 271] : List Addr) := fun q => by
      have := List.all_eq_true.mp (offKtabs w.params) a q
      rw [e] at this
      cases this
    simp only [List.mem_cons, List.not_mem_nil, or_false, not_or] at hn ⊢
    exact ⟨⟨hn.2.2.1, hn.2.2.2.1, hn.2.2.2.2⟩, hn.1, hn.2.1⟩
  glob := Tg
  bt := Tb
  lim := Tl
  offG := by decide
  offB := by decide
  offS := by decide
  bi := Tbi
  bmain := by
    obtain ⟨bm, ob, h1, h2, h3, h4, h5, h6⟩ := Tbm
    exact ⟨bm, ob, h1, h2, h3, h4, h5, h6, off5 Y2 h3 (by rw [h4]; intro q; cases q)⟩
theorem codeTab {h : Heap} {P : Params} {c b : Addr} {vs : Array Value} {d : Option Addr} {sl : Array (Option Value)} (X : (hd.heap_39 P).In h) (hc : (hd.heap_39 P).lookup c = some ⟨.type "code", d, .fields vs, sl⟩) (hv : vs[11]? = some (.ref b)) : isCodeTable h b := ⟨c, _, vs, X _ _ hc, rfl, rfl, hv⟩
theorem grown {h h' : Heap} {b : Addr} {o : Obj} {ps : Array Value} (ho : h.get? b = some o) (h0 : h.get? b = some (tabObj #[])) (ht : isCodeTable h b) (h1 : h'.get? b = some (tabObj ps)) : asItWas h h' b o := by
  rw [h0] at ho
  cases ho
  exact .inr (.inl ⟨ht, rfl, #[], ps, rfl, by rw [h1, Array.empty_append]⟩)

theorem fin_law {s₀ : Shared} {fa l : Addr} {vs : List Value} {xs : List Int} (Y1 : (hd.heap_39 w.params).In s₁.heap) (Y2 : ∀ P, P ∈ ([469, 490, 401, 436, 271] : List Addr) → s₁.heap.get? P = some (tabObj #[]))
    (Tg : s₁.heap.Ns mainGlobals mg) (Tb : s₁.heap.Ns builtinsNs mb) (Tl : s₁.heap.NoLimit) (Tbi : ∀ x : Str, x ≠ "__name__" → mb x = bootBuiltins x)
    (Tbm : ∃ bm ob, mg "__builtins__" = some (.ref bm) ∧ bm ≠ builtinsNs ∧ s₁.heap.get? bm = some ob ∧ ob.cls = .type "module" ∧ ob.dict = some builtinsNs ∧ ob.data = .plain)
    (hmg : mg (Str.ofString "law") = some (.ref fa)) (hg : s₁.gens = #[]) (hL : s₁.heap.IsList l vs.toArray) (hI : IntsAre vs xs) (hlen : xs.length ≤ 63) :
    codeAny (model PySem.Challenge.pw_sv0017_05 w) callerA (.call (.ref fa) ⟨[.ref l], []⟩) (GoodWG PySem.Challenge.rw_sv0017_05.row.claim (classAt s₀.heap) (ExcName.means s₀.heap) [ofPy (PyData.list (List.map PyData.int xs))] s₁) s₁ := by
  have hfa : fa = 493 := by
    have := mg_of (n := Str.ofString "law") (v := .ref 493) Y1 Tg (by kernel_rfl)
    rw [hmg] at this
    injection this with this
    injection this
  subst hfa
  have t0 := fun P hP => Y2 P hP
  have R : Rep (gd w s₁ mg mb Y1 Y2 Tg Tb Tl Tbi Tbm) [(469, isTab #[]), (490, isTab #[])] s₁ := by
    refine ⟨fun b o e _ _ => e, fun p hp => ?_, by decide, fun p hp => ?_, fun P hP => ?_, fun P hP => ?_, rfl, rfl, .of_eq hg⟩
    · rcases List.mem_cons.mp hp with rfl | hp
      · exact ⟨_, Y2 469 (by decide), rfl⟩
      · rw [List.mem_singleton.mp hp]; exact ⟨_, Y2 490 (by decide), rfl⟩
    · rcases List.mem_cons.mp hp with rfl | hp
      · exact ⟨.inr (show (469 : Addr) ∈ ([469, 490] : List Addr) by decide), show (469 : Addr) ∉ ([401, 436, 271] : List Addr) by decide⟩
      · rw [List.mem_singleton.mp hp]; exact ⟨.inr (show (490 : Addr) ∈ ([469, 490] : List Addr) by decide), show (490 : Addr) ∉ ([401, 436, 271] : List Addr) by decide⟩
    · exact ⟨#[], Y2 P (List.mem_of_mem_drop (i := 2) (by exact hP)), trivial⟩
    · exact ⟨_, Y2 P (List.mem_of_mem_take (i := 2) (by exact hP))⟩
  obtain ⟨o, ho, hc, n, hdat⟩ := hL
  have hS : Holds (gd w s₁ mg mb Y1 Y2 Tg Tb Tl Tbi Tbm) [] l (isInts xs) := .inr ⟨o, ho, ⟨vs, hI, hc, n, hdat⟩, off5 Y2 ho (by rw [hc]; intro q; cases q)⟩
  refine sp_law (G := gd w s₁ mg mb Y1 Y2 Tg Tb Tl Tbi Tbm) R hS (by omega) (by decide +kernel) (by decide +kernel) rfl rfl rfl rfl (show (401 : Addr) ∈ ([401, 436, 271] : List Addr) by decide) (show (436 : Addr) ∈ ([401, 436, 271] : List Addr) by decide) (show (271 : Addr) ∈ ([401, 436, 271] : List Addr) by decide) rfl (fun σ' s' p p' R' hp hp' => ?_)
  obtain ⟨o1, ho1, e1⟩ := R'.cellH hp
  obtain ⟨o2, ho2, e2⟩ := R'.cellH hp'
  cases e1
  cases e2
  have hold : ∀ b o, s₁.heap.get? b = some o → asItWas s₁.heap s'.heap b o := fun b o e => by
    by_cases g1 : b ∈ ([401, 436, 271] : List Addr)
    · obtain ⟨ps, h1, _⟩ := R'.gt b g1
      have h0 := Y2 b (List.mem_of_mem_drop (i := 2) (by exact g1))
      refine grown e h0 ?_ h1
      simp only [List.mem_cons, List.not_mem_nil, or_false] at g1
      rcases g1 with rfl | rfl | rfl
      · exact codeTab (c := 405) Y1 rfl rfl
      · exact codeTab (c := 440) Y1 rfl rfl
      · exact codeTab (c := 275) Y1 rfl rfl
    by_cases g2 : b ∈ ([469, 490] : List Addr)
    · simp only [List.mem_cons, List.not_mem_nil, or_false] at g2
      rcases g2 with rfl | rfl
      · exact grown e (Y2 469 (by decide)) (codeTab (c := 473) Y1 rfl rfl) ho1
      · exact grown e (Y2 490 (by decide)) (codeTab (c := 492) Y1 rfl rfl) ho2
    · exact .inl (R'.keep b o e g1 g2)
  refine ⟨.inl ⟨.bool true, .bool true, [], rfl, fun _ => rfl, .bool true, ?_, fun _ => ⟨.nil, fun a ha => by cases ha⟩⟩, ⟨hold, fun b o e => ?_⟩, R'.os, R'.gens⟩
  · kernel_rfl
  · rcases hold b o e with x | ⟨_, _, _, _, _, x⟩ | ⟨_, _, ⟨o', _, _, x, _⟩, _⟩
    · exact ⟨_, x⟩
    · exact ⟨_, x⟩
    · exact ⟨_, x⟩
end
end Bl

end
section
open PySem PySem.W PyProof.Rows
set_option maxHeartbeats 8000000
theorem PySem.Challenge.cw_sv0017_05_holds : PySem.Challenge.rw_sv0017_05.Holds := by
  refine Bl.hd ?_
  intro w s₀ s₁ mg mb G Y fa o pm cd doc dV kV ho hd hcd hD hmg hg args vals as hpre hlay hrd hwl hlo
  have Y1 := km_in_of Y
  have Y2 := km_tabs_of Y
  have T := G.T
  clear hcd hD hd Y
  wrow_args hpre hlay hrd hwl hlo
  all_goals refine enter_call ?_
  rename_i hI _ _ _
  exact Bl.fin_law Y1 Y2 T.g T.b T.nolimit T.builtins T.bmain hmg hg (by assumption) (by assumption) (by omega)
end
