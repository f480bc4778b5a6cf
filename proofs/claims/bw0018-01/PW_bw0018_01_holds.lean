import PyProof.Rows.All
import Wide.All
import OpenK.AllK
import Wide.FinOn
import Lean
import PySem.Challenge.RW_bw0018_01
set_option Elab.async false
set_option maxRecDepth 100000
set_option maxHeartbeats 0
section
open PySem PySem.W PySem.W.X PyProof.Rows
local macro_rules | `(tactic| k_head) => `(tactic| z_head)
open_top Mine.hd for PySem.Challenge.rw_bw0018_01
end
section
open PySem PySem.W PySem.W.X PyProof.Rows
namespace Mine

abbrev NoE : Value → Shared → Prop := fun _ _ => False
def AX (d u : Nat) : Around := ⟨none, d, none, none, u⟩
theorem up {α : Type} {M : Model} {A : Around} {t : Sem α} {Q : α → Shared → Prop} {E : Value → Shared → Prop} {s : Shared} (d u : Nat)
    (h : wpAny M (AX d u) t Q E s) (hh : A.handled = none) (hd : A.depth ≤ d) (hu : A.units ≤ u) : wpAny M A t Q E s := by
  intro Γ p hΓ
  refine h Γ p ⟨hΓ.1.trans hh, Nat.le_trans hΓ.2.1 hd, fun l hl => (nomatch hl), fun g hg => (nomatch hg), Nat.le_trans hΓ.2.2.2.2 hu⟩

def isTab (o : Obj) : Bool := match o.cls, o.data with
  | .none, .fields _ => true
  | _, _ => false
def GensOk (g g' : Array GenState) : Prop := g.size ≤ g'.size ∧ (∀ (i : Nat) (x : GenState), g[i]? = some x → g'[i]? = some x) ∧ ∀ (i : Nat) (x : GenState), g.size ≤ i → g'[i]? = some x → x.bare = true
theorem GensOk.refl (g : Array GenState) : GensOk g g := ⟨Nat.le_refl _, fun _ _ e => e, fun i x h e => by
  have := (Array.getElem?_eq_some_iff.mp e).1; omega⟩
theorem GensOk.trans {g g' g'' : Array GenState} (h : GensOk g g') (k : GensOk g' g'') : GensOk g g'' :=
  ⟨Nat.le_trans h.1 k.1, fun i x e => k.2.1 i x (h.2.1 i x e), fun i x hi e => by
    by_cases q : g'.size ≤ i
    · exact k.2.2 i x q e
    · have lt : i < g'.size := by omega
      have e1 : g'[i]? = some g'[i] := by simp [lt]
      have e2 := k.2.1 i _ e1
      rw [e] at e2
      cases e2
      exact h.2.2 i _ hi e1⟩

/-! the tables that a def keeps of its inner defs' code -/
def codeish (o : Obj) : Bool := match o.data with
  | .fields _ => (match o.cls with
    | .none => true
    | .type n => n == "code"
    | _ => false)
  | _ => false
def CodeAt (h : Heap) (cv : Value) (q : Str) : Prop := ∃ c oc vs t, cv = .ref c ∧ h.get? c = some oc ∧ oc.cls = .type "code" ∧ oc.data = .fields vs ∧ vs[1]? = some (.str q t)
/-- a place in a text: the table, the line and column, the inner def's name -/
structure Spot where
  tab : Addr
  line : Nat
  col : Nat
  qual : Str
def Spot.pos (p : Spot) : Pos := ⟨p.line, p.col, 0, 0⟩
def TabOk (h : Heap) (p : Spot) : Prop := ∃ ps, h.get? p.tab = some (tabObj ps) ∧ TriplesOk ps.toList ∧ ∀ cv, codeAmong p.pos ps.toList = some cv → CodeAt h cv p.qual
def spots : List Spot := [⟨239, 104, 4, "make_attrgetter.<locals>.attrgetter"⟩, ⟨247, 120, 4, "make_multi_attrgetter.<locals>.attrgetter"⟩, ⟨258, 145, 4, "do_dictsort.<locals>.sort_func"⟩, ⟨402, 294, 4, "law.<locals>.key"⟩,
  ⟨402, 309, 63, "law.<locals>.<lambda>"⟩, ⟨402, 316, 67, "law.<locals>.<lambda>"⟩, ⟨402, 318, 73, "law.<locals>.<lambda>"⟩, ⟨282, 175, 41, "do_indent.<locals>.<genexpr>"⟩]
def TabsOk (h : Heap) : Prop := ∀ p ∈ spots, TabOk h p
theorem CodeAt.keep {h h' : Heap} {cv q} (k : ∀ b o, h.get? b = some o → codeish o = true → h'.get? b = some o) (x : CodeAt h cv q) : CodeAt h' cv q :=
  let ⟨c, oc, vs, t, e, g, cl, d, v⟩ := x; ⟨c, oc, vs, t, e, k _ _ g (by unfold codeish; rw [d, cl]; rfl), cl, d, v⟩
theorem TabsOk.keep {h h' : Heap} (k : ∀ b o, h.get? b = some o → codeish o = true → h'.get? b = some o) (x : TabsOk h) : TabsOk h' := fun p hp =>
  let ⟨ps, e, ht, c⟩ := x p hp; ⟨ps, k _ _ e rfl, ht, fun cv hc => (c cv hc).keep k⟩
/-- a step that keeps every object but code tables and those of X; it may make generators, that end bare -/
def spotTab (b : Addr) : Prop := ∃ p ∈ spots, p.tab = b
structure Step (X : Addr → Prop) (s s' : Shared) : Prop where
  keep : ∀ b o, s.heap.get? b = some o → isTab o = false → ¬ X b → s'.heap.get? b = some o
  there : ∀ b o, s.heap.get? b = some o → ¬ X b → ∃ o', s'.heap.get? b = some o'
  tabs : ∀ b o, s.heap.get? b = some o → ¬ spotTab b → ¬ X b → s'.heap.get? b = some o
  os : s'.os = s.os
  gens : GensOk s.gens s'.gens
  tab : TabsOk s.heap → TabsOk s'.heap
abbrev Step0 := Step fun _ => False
/-- a cell of a def's own, or of the def around a comprehension -/
def Cel (env : Env) (n : Str) (c : Addr) : Prop := env.cells.lookup n = some c ∧ env.kindOf n = some .cell
/-- the objects that a def turns itself: its frame, its cells -/
def Hot (env : Env) (b : Addr) : Prop := b = env.locals ∨ ∃ n, Cel env n b
theorem Step.mono {X Y : Addr → Prop} {s s' : Shared} (h : Step X s s') (k : ∀ b, X b → Y b) : Step Y s s' := ⟨fun b o e n x => h.keep b o e n fun q => x (k b q), fun b o e x => h.there b o e fun q => x (k b q), fun b o e t x => h.tabs b o e t fun q => x (k b q), h.os, h.gens, h.tab⟩
theorem Step.up {X : Addr → Prop} {s s' : Shared} (h : Step0 s s') : Step X s s' := h.mono fun _ q => q.elim
theorem Step.refl (X : Addr → Prop) (s : Shared) : Step X s s := ⟨fun _ _ e _ _ => e, fun _ o e _ => ⟨o, e⟩, fun _ _ e _ _ => e, rfl, GensOk.refl _, id⟩
theorem Step.trans {X : Addr → Prop} {s s' s'' : Shared} (h : Step X s s') (k : Step X s' s'') : Step X s s'' :=
  ⟨fun b o e n x => k.keep b o (h.keep b o e n x) n x, fun b o e x => let ⟨o', e'⟩ := h.there b o e x; k.there b o' e' x, fun b o e t x => k.tabs b o (h.tabs b o e t x) t x, k.os.trans h.os, h.gens.trans k.gens, fun x => k.tab (h.tab x)⟩
theorem Step0.of_heap {s : Shared} {h' : Heap} {t : Nat} (k : ∀ b o, s.heap.get? b = some o → h'.get? b = some o) : Step0 s { s with heap := h', toks := t } :=
  ⟨fun b o e _ _ => k b o e, fun b o e _ => ⟨o, k b o e⟩, fun b o e _ _ => k b o e, rfl, GensOk.refl _, fun x => x.keep fun b o e _ => k b o e⟩
theorem Step0.toks (s : Shared) (t : Nat) : Step0 s { s with toks := t } := Step0.of_heap (h' := s.heap) (fun _ _ e => e)
theorem Step0.push (s : Shared) (o : Obj) : Step0 s { s with heap := s.heap.push o } := Step0.of_heap (t := s.toks) (fun _ _ e => Heap.get?_push_of_some _ e)
theorem Step0.at {s s' : Shared} (h : Step0 s s') {b : Addr} {o : Obj} (e : s.heap.get? b = some o) (n : isTab o = false := by rfl) : s'.heap.get? b = some o := h.keep b o e n id
theorem Step.of_same {X : Addr → Prop} {s : Shared} {a : Addr} {h' : Heap} {t : Nat} (hx : X a) (hs : Heap.SameBut a s.heap h') (pl : ∀ o, s.heap.get? a = some o → codeish o = false) : Step X s { s with heap := h', toks := t } :=
  ⟨fun b o e _ n => (hs.2 b fun q => n (q ▸ hx)).trans e, fun b o e n => ⟨o, (hs.2 b fun q => n (q ▸ hx)).trans e⟩, fun b o e _ n => (hs.2 b fun q => n (q ▸ hx)).trans e, rfl, GensOk.refl _, fun x => x.keep fun b o e c => (hs.2 b fun q => by
    rw [q] at e; rw [pl o e] at c; cases c).trans e⟩
/-- what changed was not there before -/
theorem Step.new {X Y : Addr → Prop} {s s' : Shared} (h : Step X s s') (k : ∀ b, X b → ¬ Y b → s.heap.get? b = none) : Step Y s s' := by
  have z : ∀ b o, s.heap.get? b = some o → ¬ Y b → ¬ X b := fun b o e y q => by
    have := k b q y
    rw [e] at this
    cases this
  exact ⟨fun b o e n y => h.keep b o e n (z b o e y), fun b o e y => h.there b o e (z b o e y), fun b o e t y => h.tabs b o e t (z b o e y), h.os, h.gens, h.tab⟩
theorem Step0.notThere {s s' : Shared} (h : Step0 s s') {b : Addr} (e : s'.heap.get? b = none) : s.heap.get? b = none := by
  cases q : s.heap.get? b with
  | none => rfl
  | some o =>
    obtain ⟨o', e'⟩ := h.there b o q id
    rw [e] at e'; cases e'
theorem plain_dict {o : Obj} {es ep} (d : o.data = .dict es ep) : codeish o = false := by unfold codeish; rw [d]
theorem plain_seq {o : Obj} {es ep} (d : o.data = .seq es ep) : codeish o = false := by unfold codeish; rw [d]
theorem plain_cell {o : Obj} {v} (d : o.data = .cell v) : codeish o = false := by unfold codeish; rw [d]
theorem plain_cls {o : Obj} {n : String} (c : o.cls = .type n) (h : (n == "code") = false) : codeish o = false := by unfold codeish; rw [c]; split <;> first | exact h | rfl
theorem isTab_of_codeish {o : Obj} (h : codeish o = false) : isTab o = false := by
  unfold isTab
  split
  · rename_i c d; unfold codeish at h; rw [c, d] at h; cases h
  · rfl
theorem isTab_of_hasCls {o : Obj} (h : hasCls o = true) : isTab o = false := by
  unfold hasCls at h
  unfold isTab
  split
  · rename_i q _; rw [q] at h; cases h
  · rfl
theorem Step0.of_mem {s : Shared} {h' : Heap} {news : List (Addr × Obj)} {t : Nat} {d : Drawn} (D : Mem s.heap h' [] news) : Step0 s ⟨h', s.gens, d, t, s.os⟩ :=
  ⟨fun b o e _ _ => D.keep b o e (by simp [away]), fun b o e _ => ⟨o, D.keep b o e (by simp [away])⟩, fun b o e _ _ => D.keep b o e (by simp [away]), rfl, GensOk.refl _, fun x => x.keep fun b o e _ => D.keep b o e (by simp [away])⟩

/-- the text's own objects -/
noncomputable def KP (P : Params) : Frag := (Mine.hd.heap_376 P).filter (fun p => !isTab p.2)
theorem lookup_filter {K : Frag} (q : Addr × Obj → Bool) {a : Addr} {o : Obj} (h : (K.filter q).lookup a = some o) : q (a, o) = true := by
  induction K with
  | nil => cases h
  | cons p r ih =>
    obtain ⟨b, x⟩ := p
    rw [List.filter_cons] at h
    split at h
    · rename_i hq
      rw [List.lookup_cons] at h
      split at h
      · rename_i e; cases h; rw [beq_iff_eq.mp e]; exact hq
      · exact ih h
    · exact ih h
theorem KP.step0 {P : Params} {s s' : Shared} (X : (KP P).In s.heap) (h : Step0 s s') : (KP P).In s'.heap := fun a o e =>
  h.at (X a o e) (by have := lookup_filter _ e; simpa using this)
theorem mem_of_lookup' {K : Frag} {a : Addr} {o : Obj} (h : K.lookup a = some o) : (a, o) ∈ K := by
  induction K with
  | nil => cases h
  | cons p r ih =>
    obtain ⟨b, x⟩ := p
    rw [List.lookup_cons] at h
    split at h
    · rename_i e; cases h; rw [beq_iff_eq.mp e]; exact List.mem_cons_self
    · exact List.mem_cons_of_mem _ (ih h)
theorem KP_small (P : Params) : (KP P).all (fun p => Nat.blt p.1 406) = true := by
  have : (Mine.hd.heap_376 P).all (fun p => Nat.blt p.1 406) = true := by kernel_rfl
  unfold KP
  rw [List.all_eq_true] at this ⊢
  exact fun p hp => this p (List.mem_filter.mp hp).1
theorem KP.step {Y : Addr → Prop} {P : Params} {s s' : Shared} (X : (KP P).In s.heap) (h : Step Y s s') (ha : ∀ b, Y b → 406 ≤ b) : (KP P).In s'.heap := fun a o e =>
  h.keep a o (X a o e) (by have := lookup_filter _ e; simpa using this) fun q => by
    have h2 := List.all_eq_true.mp (KP_small P) _ (mem_of_lookup' e)
    exact absurd (Nat.lt_of_lt_of_le (Nat.le_of_ble_eq_true h2) (ha _ q)) (Nat.lt_irrefl _)
end Mine
end
section
open PySem PySem.W PySem.W.X PyProof.Rows
namespace Mine

section
variable {M : Model} {A : Around} {E : Value → Shared → Prop} {s : Shared}

/-- the frame of a def that is run: its names, its cells -/
structure Act (env : Env) (m cm : Str → Option Value) (s : Shared) : Prop where
  ns : s.heap.Ns env.locals m
  cell : ∀ n c, Cel env n c → s.heap.IsCell c (cm n)
  apart : ∀ n n' c, Cel env n c → Cel env n' c → n = n'
  off : ∀ n c, Cel env n c → c ≠ env.locals
  above : ∀ b, Hot env b → 406 ≤ b

theorem Ns.step0 {s s' : Shared} {a : Addr} {m} (h : s.heap.Ns a m) (hs : Step0 s s') : s'.heap.Ns a m :=
  let ⟨o, es, ep, e, d, r⟩ := h; ⟨o, es, ep, hs.at e (by unfold isTab; rw [d]; split <;> first | rfl | (rename_i q; cases q)), d, r⟩
theorem isCell_step0 {s s' : Shared} {c : Addr} {v} (h : s.heap.IsCell c v) (hs : Step0 s s') : s'.heap.IsCell c v :=
  let ⟨o, e, d⟩ := h; ⟨o, hs.at e (by unfold isTab; rw [d]; split <;> first | rfl | (rename_i q; cases q)), d⟩
theorem Act.step0 {env : Env} {m cm} {s s' : Shared} (F : Act env m cm s) (h : Step0 s s') : Act env m cm s' :=
  ⟨Ns.step0 F.ns h, fun n c hc => isCell_step0 (F.cell n c hc) h, F.apart, F.off, F.above⟩
theorem Act.hot {env : Env} {m cm} {s : Shared} (F : Act env m cm s) {b : Addr} (h : s.heap.get? b = none) : ¬ Hot env b := by
  rintro (rfl | ⟨n, hm⟩)
  · obtain ⟨o, _, _, e, _⟩ := F.ns
    rw [h] at e; cases e
  · obtain ⟨o, e, _⟩ := F.cell _ _ hm
    rw [h] at e; cases e

/-- facts about objects that no one turns -/
def Facts (X : Addr → Prop) (s : Shared) (l : List (Addr × Obj)) : Prop := ∀ p ∈ l, s.heap.get? p.1 = some p.2 ∧ isTab p.2 = false ∧ ¬ X p.1
theorem Facts.step {X : Addr → Prop} {s s' : Shared} {l : List (Addr × Obj)} (H : Facts X s l) (h : Step X s s') : Facts X s' l := fun p hp => ⟨h.keep _ _ (H p hp).1 (H p hp).2.1 (H p hp).2.2, (H p hp).2⟩
theorem Facts.step0 {X : Addr → Prop} {s s' : Shared} {l : List (Addr × Obj)} (H : Facts X s l) (h : Step0 s s') : Facts X s' l := H.step h.up
theorem Facts.at {X : Addr → Prop} {s : Shared} {l : List (Addr × Obj)} (H : Facts X s l) (i : Nat) {a : Addr} {o : Obj} (h : l[i]? = some (a, o)) : s.heap.get? a = some o := (H _ (List.mem_of_getElem? h)).1
theorem Facts.cons {X : Addr → Prop} {s : Shared} {l : List (Addr × Obj)} (H : Facts X s l) {a : Addr} {o : Obj} (h : s.heap.get? a = some o) (n : ¬ X a) (c : isTab o = false := by rfl) : Facts X s ((a, o) :: l) := fun p hp => by
  rcases List.mem_cons.mp hp with rfl | hp
  · exact ⟨h, c, n⟩
  · exact H p hp
theorem Facts.nil (X : Addr → Prop) (s : Shared) : Facts X s [] := fun _ hp => nomatch hp
theorem Facts.more {X Y : Addr → Prop} {s : Shared} {l : List (Addr × Obj)} (H : Facts X s l) (k : ∀ b, Y b → ¬ X b → s.heap.get? b = none) : Facts Y s l := fun p hp => ⟨(H p hp).1, (H p hp).2.1, fun q => by
  have := k _ q (H p hp).2.2
  rw [(H p hp).1] at this; cases this⟩

theorem st_local1 {env : Env} {m cm} {x : Str} {v : Value} {Q : Unit → Shared → Prop} (F : Act env m cm s)
    (h : ∀ s', Act env (fun y => if y = x then some v else m y) cm s' → Step (fun b => b = env.locals) s s' → Q () s')
    (hl : env.kindOf x = some .local := by kernel_rfl) (hp : (env.scope.kind == .class || (env.scope.kind == .module && env.locals != env.globals)) = false := by kernel_rfl) :
    wpAny M A (storeName env x v) Q E s := by
  refine wpAny_storeName_local hl F.ns (fun h' hn hs => ?_) hp
  refine h _ ⟨hn, fun n c hc => (F.cell n c hc).sameBut hs (F.off n c hc), F.apart, F.off, F.above⟩ (Step.of_same rfl hs fun o e => by
    obtain ⟨o', es, ep, e', d, _⟩ := F.ns
    rw [e] at e'; cases e'; exact plain_dict d)
theorem st_local {env : Env} {m cm} {x : Str} {v : Value} {Q : Unit → Shared → Prop} (F : Act env m cm s)
    (h : ∀ s', Act env (fun y => if y = x then some v else m y) cm s' → Step (Hot env) s s' → Q () s')
    (hl : env.kindOf x = some .local := by kernel_rfl) (hp : (env.scope.kind == .class || (env.scope.kind == .module && env.locals != env.globals)) = false := by kernel_rfl) :
    wpAny M A (storeName env x v) Q E s := st_local1 F (fun s' F' st => h s' F' (st.mono fun b e => .inl e)) hl hp
theorem st_cell {env : Env} {m cm} {x : Str} {c : Addr} {v : Value} {Q : Unit → Shared → Prop} (F : Act env m cm s) (hc : env.cells.lookup x = some c)
    (h : ∀ s', Act env m (fun y => if y = x then some v else cm y) s' → Step (Hot env) s s' → Q () s')
    (hk : env.scope.kind = .function := by kernel_rfl) (hl : env.kindOf x = some .cell := by kernel_rfl) :
    wpAny M A (storeName env x v) Q E s := by
  refine wpAny_storeName_cell hk hl hc (F.cell x c ⟨hc, hl⟩) fun h' hc' hs => h _ ⟨F.ns.sameBut hs (Ne.symm (F.off _ _ ⟨hc, hl⟩)), fun n c' hcl => ?_, F.apart, F.off, F.above⟩ (Step.of_same (t := s.toks) (.inr ⟨x, hc, hl⟩) hs fun o e => by
    obtain ⟨o', e', d⟩ := F.cell x c ⟨hc, hl⟩
    rw [e] at e'; cases e'; exact plain_cell d)
  · by_cases hn : n = x
    · subst hn
      obtain ⟨hcl, _⟩ := hcl
      rw [hc] at hcl; cases hcl
      simpa using hc'
    · rw [if_neg hn]
      exact (F.cell n c' hcl).sameBut hs fun e => hn (F.apart _ _ _ hcl (e ▸ ⟨hc, hl⟩))
theorem ld_local {env : Env} {m cm} {x : Str} {pos : Pos} {v : Value} {Q : Value → Shared → Prop} (F : Act env m cm s) (hv : m x = some v) (h : Q v s)
    (hk : env.scope.kind = .function := by kernel_rfl) (hl : env.kindOf x = some .local := by kernel_rfl) (hd : (x == ("__debug__" : Str)) = false := by kernel_rfl) :
    wpAny M A (eval (.Name x pos) env) Q E s := wpAny_Name (wpAny_loadName_local hk hl F.ns hv h) hd
theorem ldn_local {env : Env} {m cm} {x : Str} {v : Value} {Q : Value → Shared → Prop} (F : Act env m cm s) (hv : m x = some v) (h : Q v s)
    (hk : env.scope.kind = .function := by kernel_rfl) (hl : env.kindOf x = some .local := by kernel_rfl) :
    wpAny M A (loadName env x) Q E s := wpAny_loadName_local hk hl F.ns hv h
theorem ld_cell {env : Env} {m cm} {x : Str} {c : Addr} {pos : Pos} {v : Value} {Q : Value → Shared → Prop} (F : Act env m cm s) (hc : env.cells.lookup x = some c) (hv : cm x = some v) (h : Q v s)
    (hk : env.scope.kind = .function := by kernel_rfl) (hl : env.kindOf x = some .cell := by kernel_rfl) (hd : (x == ("__debug__" : Str)) = false := by kernel_rfl) :
    wpAny M A (eval (.Name x pos) env) Q E s := wpAny_Name (wpAny_loadName_cell hk hl hc (hv ▸ F.cell _ _ ⟨hc, hl⟩) h) hd
theorem ld_free {env : Env} {x : Str} {c : Addr} {pos : Pos} {v : Value} {Q : Value → Shared → Prop} (hc : env.cells.lookup x = some c) (hv : s.heap.IsCell c (some v)) (h : Q v s)
    (hk : env.scope.kind = .function := by kernel_rfl) (hl : env.kindOf x = some .free := by kernel_rfl) (hd : (x == ("__debug__" : Str)) = false := by kernel_rfl) (hn : (x == ("__classdict__" : Str)) = false := by kernel_rfl) :
    wpAny M A (eval (.Name x pos) env) Q E s := wpAny_Name (wpAny_loadName_free hk hl hc hv h hn) hd

/-- a global name of the text, or a built-in -/
theorem nsGet_K {K : Frag} {ns : Addr} {x : Str} {r : Option Value} {Q : Option Value → Shared → Prop} (X : K.In s.heap) (e : nsIn K ns x = some r) (h : Q r s) : wpAny M A (nsGet ns x) Q E s :=
  (looks_nsIn X e).here h
theorem ld_glob {env : Env} {K : Frag} {x : Str} {pos : Pos} {v : Value} {Q : Value → Shared → Prop} (X : K.In s.heap) (e : nsIn K mainGlobals x = some (some v)) (h : Q v s)
    (hk : env.scope.kind = .function := by kernel_rfl) (hl : env.kindOf x = some .globalImplicit := by kernel_rfl) (hg : env.globals = mainGlobals := by kernel_rfl) (hd : (x == ("__debug__" : Str)) = false := by kernel_rfl) :
    wpAny M A (eval (.Name x pos) env) Q E s := by
  refine wpAny_Name ?_ hd
  unfold loadName
  simp only [Env.blockKind, hk, hl, ScopeKind.isAnnotationScope, Bool.false_and, Bool.false_eq_true, if_false]
  unfold loadGlobal
  rw [hg]
  exact wpAny_bind (nsGet_K X e (wpAny_pure h))
theorem ld_built {env : Env} {K : Frag} {x : Str} {pos : Pos} {v : Value} {Q : Value → Shared → Prop} (X : K.In s.heap) (e : nsIn K mainGlobals x = some none) (e2 : nsIn K builtinsNs x = some (some v)) (h : Q v s)
    (hk : env.scope.kind = .function := by kernel_rfl) (hl : env.kindOf x = some .globalImplicit := by kernel_rfl) (hg : env.globals = mainGlobals := by kernel_rfl) (hb : env.builtins = builtinsNs := by kernel_rfl) (hd : (x == ("__debug__" : Str)) = false := by kernel_rfl) :
    wpAny M A (eval (.Name x pos) env) Q E s := by
  refine wpAny_Name ?_ hd
  unfold loadName
  simp only [Env.blockKind, hk, hl, ScopeKind.isAnnotationScope, Bool.false_and, Bool.false_eq_true, if_false]
  unfold loadGlobal
  rw [hg, hb]
  exact wpAny_bind (nsGet_K X e (wpAny_bind (nsGet_K X e2 (wpAny_pure h))))
end

/-! the text's parts, out of the row's program -/
def fnBody (k : Nat) : List Stmt := match PySem.Challenge.pw_bw0018_01.main.body.getD k (.Pass default) with
  | .FunctionDef _ _ b _ _ _ _ _ _ _ => b
  | _ => []
def fnScope (k : Nat) : Scope := match PySem.Challenge.pw_bw0018_01.main.body.getD k (.Pass default) with
  | .FunctionDef _ _ _ _ _ _ sc _ _ _ => sc
  | _ => default
noncomputable def objAt (P : Params) (a : Addr) : Obj := ((KP P).lookup a).getD default
noncomputable def fdAt (P : Params) (a : Addr) : FuncData := match (objAt P a).data with
  | .func fd => fd
  | _ => default
/-! calls of the text's plain defs -/
section
variable {prog : Program} {w : World} {A : Around} {s : Shared}
def mL (env : Env) (binds : List (Str × Value)) : Str → Option Value := bindL env.kindOf binds fun _ => none
def mC (env : Env) (binds : List (Str × Value)) : Str → Option Value := bindC env.kindOf binds fun _ => none
theorem noLimit {P : Params} (X : (KP P).In s.heap) : s.heap.NoLimit :=
  ⟨s.heap.nsMap cStatics, .of_isNs (isNs_of_in X (by kernel_rfl)), nsMap_none_of_in (K := KP P) X (by kernel_rfl) (by kernel_rfl)⟩
theorem size_ge {P : Params} (X : (KP P).In s.heap) : 406 ≤ s.heap.objs.size := by
  have h : ((KP P).lookup 405).isSome = true := by kernel_rfl
  obtain ⟨o, ho⟩ := Option.isSome_iff_exists.mp h
  exact Heap.lt_size (X _ _ ho)
/-- what a call hands back -/
def Back (Q : Value → Shared → Prop) (r : Result) (s' : Shared) : Prop := match r with
  | .ok (.ret v) => Q v s'
  | .ok _ => False
  | .error e => NoE e s'
theorem code_def {P : Params} {a : Addr} {args : Args} {o : Obj} {fd : FuncData} {body : List Stmt} {sc : Scope} {binds : List (Str × Value)} {Q : Value → Shared → Prop} (X : (KP P).In s.heap)
    (ho : (KP P).lookup a = some o) (hd : o.data = .func fd) (hbody : fd.body = .stmts body) (hsc : fd.scope = sc) (hgl : fd.globals = mainGlobals) (hbi : fd.builtins = builtinsNs) (hcl : fd.closure = [])
    (hcd : codeIn (KP P) fd.code fd.qualname = true)
    (hroom : A.depth < recursionLimit)
    (hbind : ∀ (E : Value → Shared → Prop) (Q : List (Str × Value) → Shared → Prop), Q binds s → wpAny (model prog w) A.in1 (bindArgs fd args) Q E s)
    (hkind : ∀ L, ∀ x ∈ binds, sc.names.lookup x.1 = some .local ∨ (sc.names.lookup x.1 = some .cell ∧ ((cellsFrom (L + 1) sc.names []).lookup x.1).isSome = true))
    (h : ∀ L env, env = newEnv sc L mainGlobals (cellsFrom (L + 1) sc.names []) (fd.qualname ++ ".<locals>.") (some a) fd.code none builtinsNs → 406 ≤ L →
      ∀ s', Act env (mL env binds) (mC env binds) s' → Step0 s s' → (∀ b, (∃ o, s.heap.get? b = some o) → ¬ Hot env b) →
      wpAny (model prog w) (A.deeper env) (execs body env) (fun f s' => Q (match f with | .ret v => v | _ => .none) s') NoE s')
    (hco : sc.isCoroutine = false) (hgen : sc.isGenerator = false) (hk : sc.kind = .function) :
    codeAny (model prog w) A (.call (.ref a) args) (Back Q) s := by
  subst hsc
  refine codeAny_call_function hroom (X _ _ ho) hd hco hgen hbody (codeRec_of X hcd) ?_
  refine hbind _ _ ?_
  rw [hcl, hgl, hbi]
  refine wpAny_newFunctionEnv_cells hk (hkind _) fun env he s' x => ?_
  obtain ⟨h', tk, rfl⟩ := x.toInCall.same
  have st : Step0 s { s with heap := h', toks := tk } := Step0.of_heap x.toInCall.keep
  have hL : env.locals = s.heap.objs.size := by rw [he]; rfl
  have lt : ∀ b, Hot env b → s.heap.objs.size ≤ b := by
    rintro b (rfl | ⟨n, hc⟩)
    · rw [hL]; exact Nat.le_refl _
    · rw [← hL]; exact Nat.le_of_lt (x.above _ _ (PySem.mem_of_lookup hc.1))
  refine ⟨noLimit (KP.step0 X st), codeAny_func (wpAny_mono (h _ env he (size_ge X) _ ⟨x.toInCall.ns, fun n c hc => x.cell n c hc.1, fun n n' c h1 h2 => name_of_addr x.apart (PySem.mem_of_lookup h1.1) (PySem.mem_of_lookup h2.1), fun n c hc => Nat.ne_of_gt (x.above _ _ (PySem.mem_of_lookup hc.1)), fun b hb => Nat.le_trans (size_ge X) (lt b hb)⟩ st ?_) (fun f s'' q => q) fun _ _ q => q.elim)⟩
  rintro b ⟨ob, hob⟩ hh
  exact absurd (Nat.lt_of_lt_of_le (Heap.lt_size hob) (lt b hh)) (Nat.lt_irrefl _)
theorem call_def {P : Params} {a : Addr} {args : Args} {o : Obj} {fd : FuncData} {body : List Stmt} {sc : Scope} {binds : List (Str × Value)} {Q : Value → Shared → Prop} (X : (KP P).In s.heap)
    (ho : (KP P).lookup a = some o) (hd : o.data = .func fd) (hbody : fd.body = .stmts body) (hsc : fd.scope = sc) (hgl : fd.globals = mainGlobals) (hbi : fd.builtins = builtinsNs) (hcl : fd.closure = [])
    (hcd : codeIn (KP P) fd.code fd.qualname = true)
    (hroom : A.depth < recursionLimit)
    (hbind : ∀ (E : Value → Shared → Prop) (Q : List (Str × Value) → Shared → Prop), Q binds s → wpAny (model prog w) A.in1 (bindArgs fd args) Q E s)
    (hkind : ∀ L, ∀ x ∈ binds, sc.names.lookup x.1 = some .local ∨ (sc.names.lookup x.1 = some .cell ∧ ((cellsFrom (L + 1) sc.names []).lookup x.1).isSome = true))
    (h : ∀ L env, env = newEnv sc L mainGlobals (cellsFrom (L + 1) sc.names []) (fd.qualname ++ ".<locals>.") (some a) fd.code none builtinsNs → 406 ≤ L →
      ∀ s', Act env (mL env binds) (mC env binds) s' → Step0 s s' → (∀ b, (∃ o, s.heap.get? b = some o) → ¬ Hot env b) →
      wpAny (model prog w) (A.deeper env) (execs body env) (fun f s' => Q (match f with | .ret v => v | _ => .none) s') NoE s')
    (hco : sc.isCoroutine = false) (hgen : sc.isGenerator = false) (hk : sc.kind = .function) :
    wpAny (model prog w) A (call (.ref a) args.pos args.kw) Q NoE s :=
  wpAny_call (code_def X ho hd hbody hsc hgl hbi hcl hcd hroom hbind hkind h hco hgen hk)

noncomputable def EV (k a : Nat) (P : Params) (L : Addr) : Env := newEnv (fnScope k) L mainGlobals (cellsFrom (L + 1) (fnScope k).names []) ((fdAt P a).qualname ++ ".<locals>.") (some a) (fdAt P a).code none builtinsNs
theorem call_txt (k a : Nat) {args : Args} {binds : List (Str × Value)} {Q : Value → Shared → Prop} (X : (KP w.params).In s.heap) (hroom : A.depth < recursionLimit)
    (hbind : peek (KP w.params) ⟨prog, w.params⟩ (bindArgs (fdAt w.params a) args) = some binds)
    (hkind : ∀ L, ∀ x ∈ binds, (fnScope k).names.lookup x.1 = some .local ∨ ((fnScope k).names.lookup x.1 = some .cell ∧ ((cellsFrom (L + 1) (fnScope k).names []).lookup x.1).isSome = true))
    (h : ∀ L, 406 ≤ L → ∀ s', Act (EV k a w.params L) (mL (EV k a w.params L) binds) (mC (EV k a w.params L) binds) s' → Step0 s s' → (∀ b, Hot (EV k a w.params L) b → s.heap.get? b = none) →
      wpAny (model prog w) (A.deeper (EV k a w.params L)) (execs (fnBody k) (EV k a w.params L)) (fun f s' => Q (match f with | .ret v => v | _ => .none) s') NoE s')
    (c1 : (KP w.params).lookup a = some (objAt w.params a) := by kernel_rfl) (c2 : (objAt w.params a).data = .func (fdAt w.params a) := by kernel_rfl) (c3 : (fdAt w.params a).body = .stmts (fnBody k) := by kernel_rfl)
    (c4 : (fdAt w.params a).scope = fnScope k := by kernel_rfl) (c5 : (fdAt w.params a).globals = mainGlobals := by kernel_rfl) (c6 : (fdAt w.params a).builtins = builtinsNs := by kernel_rfl) (c7 : (fdAt w.params a).closure = [] := by kernel_rfl)
    (c8 : codeIn (KP w.params) (fdAt w.params a).code (fdAt w.params a).qualname = true := by kernel_rfl) (c9 : (fnScope k).isCoroutine = false := by kernel_rfl) (c10 : (fnScope k).isGenerator = false := by kernel_rfl) (c11 : (fnScope k).kind = .function := by kernel_rfl) :
    wpAny (model prog w) A (call (.ref a) args.pos args.kw) Q NoE s :=
  call_def X c1 c2 c3 c4 c5 c6 c7 c8 hroom (fun E Q h => (Looks.of_peek (M := model prog w) X hbind).here h) hkind (fun L env he hL s' F h01 hn => by
    subst he
    refine h L hL s' F h01 fun b hb => ?_
    cases q : s.heap.get? b with
    | none => rfl
    | some o => exact absurd hb (hn b ⟨o, q⟩)) c9 c10 c11
end
end Mine
end
section
open PySem PySem.W PySem.W.X PyProof.Rows
namespace Mine

theorem Ns.stepX {Y : Addr → Prop} {s s' : Shared} {a : Addr} {m} (h : s.heap.Ns a m) (hs : Step Y s s') (hy : ¬ Y a) : s'.heap.Ns a m :=
  let ⟨o, es, ep, e, d, r⟩ := h; ⟨o, es, ep, hs.keep _ _ e (by unfold isTab; rw [d]; split <;> first | rfl | (rename_i q; cases q)) hy, d, r⟩
theorem isCell_stepX {Y : Addr → Prop} {s s' : Shared} {c : Addr} {v} (h : s.heap.IsCell c v) (hs : Step Y s s') (hy : ¬ Y c) : s'.heap.IsCell c v :=
  let ⟨o, e, d⟩ := h; ⟨o, hs.keep _ _ e (by unfold isTab; rw [d]; split <;> first | rfl | (rename_i q; cases q)) hy, d⟩
theorem Act.stepX {Y : Addr → Prop} {env : Env} {m cm} {s s' : Shared} (F : Act env m cm s) (h : Step Y s s') (hy : ∀ b, Y b → ¬ Hot env b) : Act env m cm s' :=
  ⟨Ns.stepX F.ns h fun q => hy _ q (.inl rfl), fun n c hc => isCell_stepX (F.cell n c hc) h fun q => hy _ q (.inr ⟨n, hc⟩), F.apart, F.off, F.above⟩
theorem isList_step {Y : Addr → Prop} {s s' : Shared} {a : Addr} {vs} (h : s.heap.IsList a vs) (hs : Step Y s s') (hy : ¬ Y a) : s'.heap.IsList a vs :=
  let ⟨o, e, c, d⟩ := h; ⟨o, hs.keep _ _ e (by unfold isTab; rw [c]) hy, c, d⟩
theorem isIter_step {Y : Addr → Prop} {s s' : Shared} {a l : Addr} {i} (h : s.heap.IsListIter a l i) (hs : Step Y s s') (hy : ¬ Y a) : s'.heap.IsListIter a l i :=
  let ⟨o, e, c, d⟩ := h; ⟨o, hs.keep _ _ e (by unfold isTab; rw [c]) hy, c, d⟩

/-- what a loop draws from: n turns; Dp: the objects that it rests on, Y: those that it turns -/
structure Itr (prog : Program) (w : World) (A : Around) (target : Expr) (I : Addr) (Dp Y : Addr → Prop) (n : Nat) (V : Nat → Value → Shared → Prop) (St : Nat → Shared → Prop) : Prop where
  sub : ∀ b, Y b → Dp b
  above : ∀ b, Y b → 406 ≤ b
  there : ∀ i s, St i s → ∀ b, Dp b → ∃ o, s.heap.get? b = some o
  stable : ∀ (Z : Addr → Prop) i s s', St i s → Step Z s s' → (∀ b, Z b → ¬ Dp b) → St i s'
  self : ∀ s (Q : Value → Shared → Prop), St 0 s → Q (.ref I) s → wpAny (model prog w) A (pyIter (.ref I)) Q (fun _ _ => False) s
  item : ∀ i s (Q : Value → Shared → Prop), i < n → St i s → (∀ v s', V i v s' → Step Y s s' → St (i + 1) s' → Q v s') →
    wpAny (model prog w) A (pyNext (.ref I)) (fun r s₁ => match r with
      | none => False
      | some v => wpAny (model prog w) A (letOwnedTupleGo target (.ref I) v) (fun _ s₂ => Q v s₂) NoE s₁) NoE s
  done : ∀ s (Q : Shared → Prop), St n s → (∀ s', Step Y s s' → Q s') →
    wpAny (model prog w) A (pyNext (.ref I)) (fun r s₁ => match r with
      | none => Q s₁
      | some _ => False) NoE s
/-- a target takes a value -/
def Bnd (prog : Program) (w : World) (A : Around) (env : Env) (target : Expr) (V : Value → Shared → Prop) (B : (Str → Option Value) → (Str → Option Value) → Prop) : Prop :=
  ∀ s v m cm (Q : Shared → Prop), V v s → Act env m cm s → (∀ m' s', B m m' → Act env m' cm s' → Step (fun b => b = env.locals) s s' → Q s') →
    wpAny (model prog w) A (assign target env v) (fun _ s' => Q s') NoE s
/-- both, within a frame -/
structure Src (prog : Program) (w : World) (A : Around) (env : Env) (target : Expr) (I : Addr) (Dp Y : Addr → Prop) (n : Nat)
    (B : Nat → (Str → Option Value) → (Str → Option Value) → Prop) (St : Nat → Shared → Prop) : Prop where
  cold : ∀ b, Dp b → ¬ Hot env b
  sub : ∀ b, Y b → Dp b
  above : ∀ b, Y b → 406 ≤ b
  stable : ∀ (Z : Addr → Prop) i s s', St i s → Step Z s s' → (∀ b, Z b → ¬ Dp b) → St i s'
  item : ∀ i s m cm (Q : Shared → Prop), i < n → St i s → Act env m cm s →
    (∀ m' s', B i m m' → Act env m' cm s' → Step (fun b => b = env.locals ∨ Y b) s s' → St (i + 1) s' → Q s') →
    wpAny (model prog w) A (pyNext (.ref I)) (fun r s₁ => match r with
      | none => False
      | some v => wpAny (model prog w) A (letOwnedTupleGo target (.ref I) v) (fun _ s₂ => wpAny (model prog w) A (assign target env v) (fun _ s₃ => Q s₃) NoE s₂) NoE s₁) NoE s
  done : ∀ s (Q : Shared → Prop), St n s → (∀ s', Step Y s s' → Q s') →
    wpAny (model prog w) A (pyNext (.ref I)) (fun r s₁ => match r with
      | none => Q s₁
      | some _ => False) NoE s
theorem Src.of {prog w A env target I Dp Y n V B St} (T : Itr prog w A target I Dp Y n V St) (cold : ∀ b, Dp b → ¬ Hot env b) (bd : ∀ i, Bnd prog w A env target (V i) (B i)) : Src prog w A env target I Dp Y n B St where
  cold := cold
  sub := T.sub
  above := T.above
  stable := T.stable
  item := fun i s m cm Q hi st F h => by
    refine wpAny_mono (T.item i s (fun v s₂ => wpAny (model prog w) A (assign target env v) (fun _ s₃ => Q s₃) NoE s₂) hi st fun v s' hv h' st' => ?_) (fun r s₁ q => q) fun _ _ q => q
    refine bd i s' v m cm Q hv (F.stepX h' fun b y => cold b (T.sub b y)) fun m' s'' hb F' h'' => ?_
    exact h m' s'' hb F' ((h'.mono fun b e => .inr e).trans (h''.mono fun b e => .inl e)) (T.stable _ _ _ _ st' h'' fun b e d => cold b d (e ▸ .inl rfl))
  done := T.done

section
variable {prog : Program} {w : World} {A : Around} {s : Shared} {env : Env}
theorem noE {α : Type} {M : Model} {t : Sem α} {Q : α → Shared → Prop} {E : Value → Shared → Prop} (h : wpAny M A t Q NoE s) : wpAny M A t Q E s := wpAny_mono h (fun _ _ q => q) fun _ _ q => q.elim

theorem for_ruleW {target iter : Expr} {body : List Stmt} {pos : Pos} {Q : Flow → Shared → Prop}
    (h : wpAny (model prog w) A (eval iter env) (fun xv s₁ => wpAny (model prog w) A (pyIter xv) (fun it s₂ => ∃ I Dp Y n B St, ∃ J : Nat → Shared → Prop, ∃ W : Addr → Prop, it = .ref I ∧ Src prog w A env target I Dp Y n B St ∧ (∀ b, W b → ¬ Dp b) ∧ St 0 s₂ ∧ J 0 s₂ ∧
      (∀ i s, i < n → J i s → ∃ m cm, Act env m cm s ∧ ∀ m' s', B i m m' → Act env m' cm s' → Step (fun b => Hot env b ∨ Y b) s s' → St (i + 1) s' →
        wpAny (model prog w) A (execs body env) (fun f s'' => match f with
          | .next | .cont => J (i + 1) s'' ∧ Step (fun b => Hot env b ∨ W b) s' s''
          | .brk => Q .next s''
          | .ret v => Q (.ret v) s'') NoE s') ∧
      (∀ s s', J n s → Step Y s s' → Q .next s')) NoE s₁) NoE s)
    (hs : ∀ x, foldedSetIterable iter env x = pure x := by intro _; rfl) :
    wpAny (model prog w) A (exec (.For target iter body [] pos) env) Q NoE s := by
  refine wpAny_For (wpAny_mono h (fun xv s₁ h₁ => wpAny_mono h₁ (fun it s₂ h₂ => ?_) fun _ _ q => q) fun _ _ q => q) hs
  obtain ⟨I, Dp, Y, n, B, St, J, W, rfl, S, wd, st0, j0, turn, fin⟩ := h₂
  refine codeAny_forLoop_any (fun k s => ∃ i, i ≤ n ∧ k = n - i ∧ St i s ∧ J i s) ?_ n ⟨0, Nat.zero_le _, by omega, st0, j0⟩
  rintro k s ⟨i, hi, rfl, st, j⟩
  by_cases hlt : i < n
  · obtain ⟨m, cm, F, go⟩ := turn i s hlt j
    refine wpAny_mono (S.item i s m cm (fun s' => wpAny (model prog w) A (execs body env) (fun f s'' => match f with
          | .next | .cont => ∃ k', k' < n - i ∧ ∃ i', i' ≤ n ∧ k' = n - i' ∧ St i' s'' ∧ J i' s''
          | .brk => Q .next s''
          | .ret v => Q (.ret v) s'') NoE s') hlt st F fun m' s' hb F' hst st' => ?_) (fun r s₁ h₁ => ?_) fun _ _ q => q.elim
    · refine wpAny_mono (go m' s' hb F' (hst.mono fun b e => e.elim (fun e => .inl (.inl e)) .inr) st') (fun f s'' q => ?_) fun _ _ q => q
      cases f with
      | next => exact ⟨n - (i + 1), by omega, i + 1, hlt, rfl, S.stable _ _ _ _ st' q.2 (fun b hb d => hb.elim (S.cold b d) fun hb => wd b hb d), q.1⟩
      | cont => exact ⟨n - (i + 1), by omega, i + 1, hlt, rfl, S.stable _ _ _ _ st' q.2 (fun b hb d => hb.elim (S.cold b d) fun hb => wd b hb d), q.1⟩
      | brk => exact q
      | ret v => exact q
    · cases r with
      | none => exact h₁.elim
      | some v => exact wpAny_mono h₁ (fun _ s₂ h₂ => wpAny_mono h₂ (fun _ s₃ h₃ => noE h₃) fun _ _ q => q.elim) fun _ _ q => q.elim
  · have hin : i = n := by omega
    subst hin
    refine wpAny_mono (S.done s (fun s' => Q .next s') st fun s' hs' => fin s s' j hs') (fun r s₁ h₁ => ?_) fun _ _ q => q.elim
    cases r with
    | none => exact wpAny_execs_nil h₁
    | some v => exact h₁.elim

theorem for_rule {target iter : Expr} {body : List Stmt} {pos : Pos} {Q : Flow → Shared → Prop}
    (h : wpAny (model prog w) A (eval iter env) (fun xv s₁ => wpAny (model prog w) A (pyIter xv) (fun it s₂ => ∃ I Dp Y n B St, ∃ J : Nat → Shared → Prop, it = .ref I ∧ Src prog w A env target I Dp Y n B St ∧ St 0 s₂ ∧ J 0 s₂ ∧
      (∀ i s, i < n → J i s → ∃ m cm, Act env m cm s ∧ ∀ m' s', B i m m' → Act env m' cm s' → Step (fun b => Hot env b ∨ Y b) s s' → St (i + 1) s' →
        wpAny (model prog w) A (execs body env) (fun f s'' => match f with
          | .next | .cont => J (i + 1) s'' ∧ Step (Hot env) s' s''
          | .brk => Q .next s''
          | .ret v => Q (.ret v) s'') NoE s') ∧
      (∀ s s', J n s → Step Y s s' → Q .next s')) NoE s₁) NoE s)
    (hs : ∀ x, foldedSetIterable iter env x = pure x := by intro _; rfl) :
    wpAny (model prog w) A (exec (.For target iter body [] pos) env) Q NoE s := by
  refine for_ruleW (wpAny_mono h (fun xv s₁ h₁ => wpAny_mono h₁ (fun it s₂ h₂ => ?_) fun _ _ q => q) fun _ _ q => q) hs
  obtain ⟨I, Dp, Y, n, B, St, J, e, S, st0, j0, turn, fin⟩ := h₂
  refine ⟨I, Dp, Y, n, B, St, J, fun _ => False, e, S, fun _ q => q.elim, st0, j0, fun i s hi j => ?_, fin⟩
  obtain ⟨m, cm, F, go⟩ := turn i s hi j
  refine ⟨m, cm, F, fun m' s' b F' st st' => wpAny_mono (go m' s' b F' st st') (fun f s'' q => ?_) fun _ _ q => q⟩
  cases f with
  | next => exact ⟨q.1, q.2.mono fun b e => .inl e⟩
  | cont => exact ⟨q.1, q.2.mono fun b e => .inl e⟩
  | brk => exact q
  | ret v => exact q

/-- a list's iterator owns no tuple -/
theorem own_list {target : Expr} {I l : Addr} {i : Nat} {v : Value} {Q : Unit → Shared → Prop} (hit : s.heap.IsListIter I l i) (h : Q () s) : wpAny (model prog w) A (letOwnedTupleGo target (.ref I) v) Q NoE s := by
  unfold letOwnedTupleGo
  obtain ⟨o, ho, hc, hd⟩ := hit
  have go : ∀ a, (["enumerate", "zip", "dict_itemiterator", "dict_reverseitemiterator", "odict_iterator", "itertools.zip_longest", "itertools.pairwise"].contains "list_iterator" && (#[.ref l, .int i 0] : Array Value)[0]? == some (rawInt a)) = false := fun a => by
    rw [show (["enumerate", "zip", "dict_itemiterator", "dict_reverseitemiterator", "odict_iterator", "itertools.zip_longest", "itertools.pairwise"].contains "list_iterator") = false from by decide, Bool.false_and]
  split
  · cases v <;> first
      | exact wpAny_pure h
      | (refine wpAny_bind (wpAny_load ho ?_)
         rw [hc, hd]
         simp only [go, Bool.false_eq_true, if_false]
         exact wpAny_pure h)
  · cases v <;> first
      | exact wpAny_pure h
      | (refine wpAny_bind (wpAny_load ho ?_)
         rw [hc, hd]
         simp only [go, Bool.false_eq_true, if_false]
         exact wpAny_pure h)
  · exact wpAny_pure h
/-- a list's items -/
theorem itr_list {target : Expr} {I l : Addr} {vs : Array Value} (hh : A.handled = none) (hne : l ≠ I) (h4 : 406 ≤ I) :
    Itr prog w A target I (fun b => b = I ∨ b = l) (fun b => b = I) vs.size (fun i v s => vs[i]? = some v ∧ s.heap.IsList l vs) (fun i s => s.heap.IsListIter I l i ∧ s.heap.IsList l vs) where
  sub := fun b e => .inl e
  above := fun b e => e ▸ h4
  there := fun i s st b e => by
    rcases e with rfl | rfl
    · obtain ⟨o, e, _⟩ := st.1; exact ⟨o, e⟩
    · obtain ⟨o, e, _⟩ := st.2; exact ⟨o, e⟩
  stable := fun Z i s s' st h n => ⟨isIter_step st.1 h fun z => n _ z (.inl rfl), isList_step st.2 h fun z => n _ z (.inr rfl)⟩
  self := fun s Q st h => wpAny_pyIter_listiter st.1 h
  item := fun i s Q hi st h => by
    refine wpAny_pyNext_list_item st.1 st.2 (x := vs[i]) (by simp [hi]) fun h' hit' hs' => ?_
    have s1 : Step (fun b => b = I) s { s with heap := h' } := Step.of_same (t := s.toks) rfl hs' fun o e => by
      obtain ⟨o', e', c, _⟩ := st.1
      rw [e] at e'; cases e'; exact plain_cls c rfl
    have l1 := isList_step st.2 s1 hne
    exact own_list hit' (h _ _ ⟨by simp [hi], l1⟩ s1 ⟨hit', l1⟩)
  done := fun s Q st h => by
    refine wpAny_pyNext_list_end hh st.1 st.2 (by simp) fun h' he' => h _ ?_
    exact ⟨fun b o e _ n => he' b o n e, fun b o e n => ⟨o, he' b o n e⟩, fun b o e _ n => he' b o n e, rfl, GensOk.refl _, fun x => x.keep fun b o e c => he' b o (fun q => by
      obtain ⟨o', e', c', _⟩ := st.1
      rw [q, e'] at e; cases e; rw [plain_cls c' rfl] at c; cases c) e⟩
theorem iter_list {l : Addr} {vs : Array Value} {Q : Value → Shared → Prop} (hl : s.heap.IsList l vs)
    (h : ∀ I s', s'.heap.IsListIter I l 0 → Step0 s s' → s.heap.get? I = none → 406 ≤ I → Q (.ref I) s') (hz : 406 ≤ s.heap.objs.size) : wpAny (model prog w) A (pyIter (.ref l)) Q NoE s :=
  wpAny_pyIter_list hl (h _ _ ⟨_, Heap.get?_push_size _ rfl, rfl, rfl⟩ (Step0.push _ _) (Heap.get?_none_of_le (Nat.le_refl _)) hz)
/-- a name takes a value -/
theorem bnd_name {x : Str} {px : Pos} {V : Value → Shared → Prop} {B : Value → Prop} (hV : ∀ v s, V v s → B v)
    (hx : env.kindOf x = some .local) (hp : (env.scope.kind == .class || (env.scope.kind == .module && env.locals != env.globals)) = false) :
    Bnd prog w A env (.Name x px) V (fun m m' => ∃ v, B v ∧ m' = fun y => if y = x then some v else m y) :=
  fun s v m cm Q hv F h => wpAny_assign_Name (st_local1 F (fun s' F' st' => h _ s' ⟨v, hV _ _ hv, rfl⟩ F' st') hx hp)
/-- a list's items, each bound to a name -/
theorem src_list {x : Str} {px : Pos} {I l : Addr} {vs : Array Value} (hh : A.handled = none) (hI : ¬ Hot env I) (hl : ¬ Hot env l) (hne : l ≠ I) (h4 : 406 ≤ I)
    (hx : env.kindOf x = some .local) (hp : (env.scope.kind == .class || (env.scope.kind == .module && env.locals != env.globals)) = false) :
    Src prog w A env (.Name x px) I (fun b => b = I ∨ b = l) (fun b => b = I) vs.size (fun i m m' => ∃ v, vs[i]? = some v ∧ m' = fun y => if y = x then some v else m y) (fun i s => s.heap.IsListIter I l i ∧ s.heap.IsList l vs) :=
  Src.of (itr_list hh hne h4) (fun b e => e.elim (fun e => e ▸ hI) fun e => e ▸ hl) fun i => bnd_name (fun v s hv => hv.1) hx hp
end
end Mine
end
section
open PySem PySem.W PySem.W.X PyProof.Rows
namespace Mine
abbrev lst (vs : List Value) (n : Nat) : Obj := ⟨.type "list", none, .seq vs.toArray n, #[]⟩
abbrev tup (vs : List Value) : Obj := ⟨.type "tuple", none, .seq vs.toArray 0, #[]⟩
/-- a list object that bears these -/
def IsL (s : Shared) (a : Addr) (vs : List Value) : Prop := ∃ n, s.heap.get? a = some (lst vs n)
def IsT (s : Shared) (a : Addr) (vs : List Value) : Prop := s.heap.get? a = some (tup vs)
theorem IsL.step {Y : Addr → Prop} {s s' : Shared} {a : Addr} {vs} (h : IsL s a vs) (hs : Step Y s s') (hy : ¬ Y a) : IsL s' a vs := let ⟨n, e⟩ := h; ⟨n, hs.keep _ _ e rfl hy⟩
theorem IsL.step0 {s s' : Shared} {a : Addr} {vs} (h : IsL s a vs) (hs : Step0 s s') : IsL s' a vs := h.step hs id
theorem IsL.is {s : Shared} {a : Addr} {vs} (h : IsL s a vs) : s.heap.IsList a vs.toArray := let ⟨n, e⟩ := h; ⟨_, e, rfl, n, rfl⟩
theorem IsT.step {Y : Addr → Prop} {s s' : Shared} {a : Addr} {vs} (h : IsT s a vs) (hs : Step Y s s') (hy : ¬ Y a) : IsT s' a vs := hs.keep _ _ h rfl hy
theorem IsT.step0 {s s' : Shared} {a : Addr} {vs} (h : IsT s a vs) (hs : Step0 s s') : IsT s' a vs := h.step hs id
theorem IsL.some {s : Shared} {a : Addr} {vs} (h : IsL s a vs) : ∃ o, s.heap.get? a = some o := let ⟨_, e⟩ := h; ⟨_, e⟩
theorem IsT.some {s : Shared} {a : Addr} {vs} (h : IsT s a vs) : ∃ o, s.heap.get? a = some o := ⟨_, h⟩

def Ends (s : Shared) (P : Value → Shared → Prop) (Q : Value → Shared → Prop) : Prop := ∀ v s', Step0 s s' → P v s' → Q v s'
theorem Ends.go {s : Shared} {P : Value → Shared → Prop} {Q : Value → Shared → Prop} (h : Ends s P Q) {v h' news t} (m : Mem s.heap h' [] news) (p : P v ⟨h', s.gens, s.drawn, t, s.os⟩) : Q v ⟨h', s.gens, s.drawn, t, s.os⟩ := h v _ (Step0.of_mem m) p
theorem Mem.at0 {h₀ h : Heap} {a : Addr} {o : Obj} {news : List (Addr × Obj)} (D : Mem h₀ h [] ((a, o) :: news)) : h.get? a = some o := D.at 0 a o rfl
theorem Mem.at1 {h₀ h : Heap} {a : Addr} {o : Obj} {p} {news : List (Addr × Obj)} (D : Mem h₀ h [] (p :: (a, o) :: news)) : h.get? a = some o := D.at 1 a o rfl
theorem Mem.at2 {h₀ h : Heap} {a : Addr} {o : Obj} {p q} {news : List (Addr × Obj)} (D : Mem h₀ h [] (p :: q :: (a, o) :: news)) : h.get? a = some o := D.at 2 a o rfl
theorem Mem.new0 {h₀ h : Heap} {a : Addr} {o : Obj} {news : List (Addr × Obj)} (D : Mem h₀ h [] ((a, o) :: news)) : h₀.get? a = none := (D.nw _ (.head _)).2
theorem Mem.new1 {h₀ h : Heap} {a : Addr} {o : Obj} {p} {news : List (Addr × Obj)} (D : Mem h₀ h [] (p :: (a, o) :: news)) : h₀.get? a = none := (D.nw _ (.tail _ (.head _))).2
local macro_rules | `(tactic| x_close) => `(tactic| (refine Ends.go (by assumption) (by first | assumption | exact Mem.start _) ?_; first | exact rfl | exact ⟨_, rfl⟩ | exact ⟨_, rfl, ⟨_, Mem.at0 (by assumption)⟩, Mem.new0 (by assumption)⟩ | exact ⟨_, rfl, Mem.at0 (by assumption), Mem.new0 (by assumption)⟩))
/-- the level of the built-ins -/
abbrev A9 : Around := ⟨none, 900, none, none, 2000⟩
section
variable (prog : Program) (w : World) (s : Shared) (Q : Value → Shared → Prop)
theorem len_list9 (a : Addr) (vs : Array Value) (n : Nat) (h : s.heap.get? a = some ⟨.type "list", none, .seq vs n, #[]⟩) (hz : vs.size ≤ 1000) (hQ : Ends s (fun v _ => ∃ t, v = .int vs.size t) Q) :
    wpAny (model prog w) A9 (call (.builtin "len") [.ref a]) Q NoE s := by x_run
theorem list_add9 (a b : Addr) (vs ws : Array Value) (n m : Nat) (h : s.heap.get? a = some ⟨.type "list", none, .seq vs n, #[]⟩) (h' : s.heap.get? b = some ⟨.type "list", none, .seq ws m, #[]⟩)
    (hz : (vs ++ ws).size ≤ 1000) (hQ : Ends s (fun v s' => ∃ r, v = .ref r ∧ s'.heap.get? r = some ⟨.type "list", none, .seq (vs ++ ws) 0, #[]⟩ ∧ s.heap.get? r = none) Q) :
    wpAny (model prog w) A9 (call (.builtin "list.__add__") [.ref a, .ref b]) Q NoE s := by x_run
end
section
variable {prog : Program} {w : World} {A : Around} {s : Shared} {env : Env}
/-- the room that a piece of work needs -/
structure Rm (A : Around) (d u : Nat) : Prop where
  handled : A.handled = none
  depth : A.depth ≤ d
  units : A.units ≤ u
theorem Rm.up {α : Type} {M : Model} {t : Sem α} {Q : α → Shared → Prop} {E : Value → Shared → Prop} {d u : Nat} (R : Rm A d u) (h : wpAny M ⟨none, d, none, none, u⟩ t Q E s) : wpAny M A t Q E s :=
  Mine.up d u h R.handled R.depth R.units
theorem Rm.mono {d u d' u' : Nat} (R : Rm A d u) (hd : d ≤ d' := by decide) (hu : u ≤ u' := by decide) : Rm A d' u' := ⟨R.handled, Nat.le_trans R.depth hd, Nat.le_trans R.units hu⟩
theorem Rm.deeper {d u : Nat} (R : Rm A d u) (env : Env) : Rm (A.deeper env) (d + 1) (u + 3) := ⟨R.handled, Nat.succ_le_succ R.depth, Nat.add_le_add_right R.units 3⟩
theorem Rm.in1 {d u : Nat} (R : Rm A d u) : Rm A.in1 d (u + 1) := ⟨R.handled, R.depth, Nat.add_le_add_right R.units 1⟩

def IsFn (s : Shared) (a : Addr) : Prop := ∃ o fd, s.heap.get? a = some o ∧ o.data = .func fd
theorem IsFn.step0 {s s' : Shared} {a : Addr} (h : IsFn s a) (hs : Step0 s s') : IsFn s' a := let ⟨o, fd, e, d⟩ := h; ⟨o, fd, hs.at e (by unfold isTab; rw [d]; split <;> first | rfl | (rename_i q; cases q)), d⟩
section
variable {M : Model} {E : Value → Shared → Prop} {pos : Pos} {Q : Value → Shared → Prop}
theorem cw_builtin {id : String} {first : List Value} {e : Expr} {rest : List Expr} (h : wpAny M A (spliced (backTo pos (starEach (e :: rest) env))) (fun vs s₁ => wpAny M A (call (.builtin id) (first ++ vs)) Q E s₁) E s)
    (he : starEach (e :: rest) env = (false, eval e env) :: starEach rest env := by rfl) (hplain : (backTo pos (starEach rest env)).any (·.1) = false := by rfl) :
    wpAny M A (callWith pos (.builtin id) first (backTo pos (starEach (e :: rest) env)) []) Q E s := by
  rw [he] at h ⊢
  refine callWith_of (P := fun _ => True) (by show ((false || (backTo pos (starEach rest env)).any (·.1)) || false) = false; rw [hplain]; rfl) (fun _ _ => ⟨.machine, .inr (.inl rfl), Looks.of_pure rfl⟩) (Calls.evalArgs_plain ?_)
  exact wpAny_mono h (fun vs s₁ q => ⟨trivial, q⟩) fun _ _ q => q
theorem cw_builtin0 {id : String} {first : List Value} (h : wpAny M A (call (.builtin id) (first ++ [])) Q E s) :
    wpAny M A (callWith pos (.builtin id) first (backTo pos (starEach [] env)) []) Q E s :=
  callWith_of (P := fun _ => True) rfl (fun _ _ => ⟨.machine, .inr (.inl rfl), Looks.of_pure rfl⟩) (evalArgs_nil3 ⟨trivial, h⟩)
theorem cw_type {id : String} {first : List Value} {e : Expr} {rest : List Expr} (h : wpAny M A (spliced (backTo pos (starEach (e :: rest) env))) (fun vs s₁ => wpAny M A (call (.type id) (first ++ vs)) Q E s₁) E s)
    (he : starEach (e :: rest) env = (false, eval e env) :: starEach rest env := by rfl) (hplain : (backTo pos (starEach rest env)).any (·.1) = false := by rfl) :
    wpAny M A (callWith pos (.type id) first (backTo pos (starEach (e :: rest) env)) []) Q E s := by
  rw [he] at h ⊢
  refine callWith_of (P := fun _ => True) (by show ((false || (backTo pos (starEach rest env)).any (·.1)) || false) = false; rw [hplain]; rfl) (fun _ _ => ⟨.machine, .inr (.inl rfl), Looks.of_pure rfl⟩) (Calls.evalArgs_plain ?_)
  exact wpAny_mono h (fun vs s₁ q => ⟨trivial, q⟩) fun _ _ q => q
theorem cw_fn {a : Addr} {first : List Value} {e : Expr} {rest : List Expr} (h : wpAny M A (spliced (backTo pos (starEach (e :: rest) env))) (fun vs s₁ => IsFn s₁ a ∧ wpAny M A (call (.ref a) (first ++ vs)) Q E s₁) E s)
    (he : starEach (e :: rest) env = (false, eval e env) :: starEach rest env := by rfl) (hplain : (backTo pos (starEach rest env)).any (·.1) = false := by rfl) :
    wpAny M A (callWith pos (.ref a) first (backTo pos (starEach (e :: rest) env)) []) Q E s := by
  rw [he] at h ⊢
  refine callWith_of (P := fun h => ∃ o fd, h.get? a = some o ∧ o.data = .func fd) (by show ((false || (backTo pos (starEach rest env)).any (·.1)) || false) = false; rw [hplain]; rfl) (fun h hp => ?_) (Calls.evalArgs_plain ?_)
  · obtain ⟨o, fd, e, d⟩ := hp
    refine ⟨.frame, .inl rfl, (Looks.ld (part := none) e).andThen ?_⟩
    rw [d]; exact .now
  · exact wpAny_mono h (fun vs s₁ q => q) fun _ _ q => q
end

theorem op_len {a : Addr} {vs : List Value} {Q : Value → Shared → Prop} (R : Rm A 900 2000) (h : IsL s a vs) (hz : vs.length ≤ 1000)
    (k : ∀ t s', Step0 s s' → Q (.int vs.length t) s') : wpAny (model prog w) A (call (.builtin "len") [.ref a]) Q NoE s := by
  obtain ⟨n, e⟩ := h
  refine R.up (len_list9 prog w s Q a vs.toArray n e (by simpa using hz) ?_)
  rintro v s' st ⟨t, rfl⟩
  have := k t s' st
  simpa using this
theorem op_addL {a b : Addr} {vs ws : List Value} {Q : Value → Shared → Prop} (R : Rm A 900 2000) (h : IsL s a vs) (h' : IsL s b ws) (hz : vs.length + ws.length ≤ 1000)
    (k : ∀ r s', Step0 s s' → IsL s' r (vs ++ ws) → s.heap.get? r = none → Q (.ref r) s') : wpAny (model prog w) A (binaryOp .Add (.ref a) (.ref b)) Q NoE s := by
  obtain ⟨n, e⟩ := h
  obtain ⟨m, e'⟩ := h'
  refine wpAny_binaryOp_concat (T := "list") ⟨_, e, rfl⟩ ⟨_, e', rfl⟩ noFill_list_add seq_list_add ?_
  refine R.up (list_add9 prog w s Q a b vs.toArray ws.toArray n m e e' (by simpa using hz) ?_)
  rintro v s' st ⟨r, rfl, hr, hn⟩
  exact k r s' st ⟨0, by simpa using hr⟩ hn
theorem op_newList {vs : List Value} {Q : Value → Shared → Prop} (hz : vs.length ≤ 1000) (k : ∀ r s', Step0 s s' → IsL s' r vs → s.heap.get? r = none → 406 ≤ s.heap.objs.size → Q (.ref r) s') (hs : 406 ≤ s.heap.objs.size) : wpAny (model prog w) A (newList vs) Q NoE s :=
  wpAny_newObj_type (k _ _ (Step0.push _ _) ⟨0, Heap.get?_push_size _ rfl⟩ (Heap.get?_none_of_le (Nat.le_refl _)) hs) (by show vs.toArray.size ≤ sizeLine; rw [List.size_toArray]; exact Nat.le_trans hz (by decide))
theorem op_append {a : Addr} {vs : List Value} {x : Value} {Q : Value → Shared → Prop} (h : IsL s a vs) (hz : vs.length ≤ 1000) (k : ∀ s', IsL s' a (vs ++ [x]) → Step (fun b => b = a) s s' → Q .none s') : wpAny (model prog w) A (call (.builtin "list.append") [.ref a, x]) Q NoE s :=
  wpAny_list_append_plain (items := vs.toArray) h (fun h' hl hsb => k _ (let ⟨n, e⟩ := hl; ⟨n, e.trans (by simp [lst])⟩) (Step.of_same (t := s.toks) rfl hsb fun o e => (let ⟨n, e'⟩ := h; (by rw [e] at e'; cases e'; rfl)))) (by simpa using Nat.le_trans hz (by decide))
end
end Mine
end
section
open PySem PySem.W PySem.W.X PyProof.Rows
namespace Mine

/-! keys: ints, or texts by their codes -/
inductive Key where
  | i (n : Int)
  | s (x : List Nat)
  deriving DecidableEq
def IsKey (v : Value) (k : Key) : Prop := match k with
  | .i n => ∃ t, v = .int n t
  | .s c => ∃ x t, v = .str x t ∧ x.cps.toList = c
def Key.lt : Key → Key → Bool
  | .i a, .i b => decide (a < b)
  | .s a, .s b => decide (a < b)
  | _, _ => false
def Key.same : Key → Key → Bool
  | .i _, .i _ => true
  | .s _, .s _ => true
  | _, _ => false
/-- the answer to a <= b -/
def Key.le (a b : Key) : Bool := !b.lt a
theorem Key.le_int (a b : Int) : Key.le (.i a) (.i b) = decide (a ≤ b) := by
  unfold Key.le Key.lt
  by_cases h : b < a
  · simp [h, show ¬ a ≤ b by omega]
  · simp [h, show a ≤ b by omega]
section
variable {prog : Program} {w : World} {A : Around} {s : Shared} {env : Env} {Q : Value → Shared → Prop}
theorem cmp_le {v u : Value} {a b : Key} (hv : IsKey v a) (hu : IsKey u b) (hs : a.same b = true) (h : Q (.bool (a.le b)) s) : wpAny (model prog w) A (compareOp .LtE v u) Q NoE s := by
  cases a <;> cases b <;> simp only [Key.same, Bool.false_eq_true] at hs
  · obtain ⟨t, rfl⟩ := hv
    obtain ⟨t', rfl⟩ := hu
    exact PyProof.Rows.le_int (by rw [← Key.le_int]; exact h)
  · obtain ⟨x, t, rfl, rfl⟩ := hv
    obtain ⟨x', t', rfl, rfl⟩ := hu
    exact P.le_str h
theorem cmp_ge {v u : Value} {a b : Key} (hv : IsKey v a) (hu : IsKey u b) (hs : a.same b = true) (h : Q (.bool (b.le a)) s) : wpAny (model prog w) A (compareOp .GtE v u) Q NoE s := by
  cases a <;> cases b <;> simp only [Key.same, Bool.false_eq_true] at hs
  · obtain ⟨t, rfl⟩ := hv
    obtain ⟨t', rfl⟩ := hu
    exact PyProof.Rows.ge_int (by rw [← Key.le_int]; exact h)
  · obtain ⟨x, t, rfl, rfl⟩ := hv
    obtain ⟨x', t', rfl, rfl⟩ := hu
    exact P.ge_str h
theorem cmp_lt {v u : Value} {a b : Key} (hv : IsKey v a) (hu : IsKey u b) (hs : a.same b = true) (h : Q (.bool (a.lt b)) s) : wpAny (model prog w) A (compareOp .Lt v u) Q NoE s := by
  cases a <;> cases b <;> simp only [Key.same, Bool.false_eq_true] at hs
  · obtain ⟨t, rfl⟩ := hv
    obtain ⟨t', rfl⟩ := hu
    exact PyProof.Rows.lt_int h
  · obtain ⟨x, t, rfl, rfl⟩ := hv
    obtain ⟨x', t', rfl, rfl⟩ := hu
    exact PyProof.Rows.lt_str h

theorem sub_slice {value : Expr} {lower upper : Option Expr} {p pos : Pos}
    (h : wpAny (model prog w) A (eval value env) (fun o s₁ => wpAny (model prog w) A (evalPart lower env) (fun vl s₂ => wpAny (model prog w) A (evalPart upper env) (fun vu s₃ =>
      ∃ l vs lo hi, o = .ref l ∧ IsL s₃ l vs ∧ vs.length ≤ 1000 ∧ IsPart vl lo ∧ IsPart vu hi ∧
        ∀ r s₄, Step0 s₃ s₄ → IsL s₄ r (kms_pick vs lo hi) → s₃.heap.get? r = none → Q (.ref r) s₄) NoE s₂) NoE s₁) NoE s)
    (ht : ∀ o r, letTemporaryGo value o r = pure () := by intro _ _; rfl) :
    wpAny (model prog w) A (eval (.Subscript value (.Slice lower upper none p) pos) env) Q NoE s := by
  refine wpAny_Subscript_list_slice (wpAny_mono h (fun o s₁ h₁ => wpAny_mono h₁ (fun vl s₂ h₂ => wpAny_mono h₂ (fun vu s₃ h₃ => ?_) fun _ _ q => q) fun _ _ q => q) fun _ _ q => q) ht
  obtain ⟨l, vs, lo, hi, rfl, hl, hz, pl, pu, k⟩ := h₃
  refine ⟨l, vs.toArray, lo, hi, rfl, hl.is, by simpa using Nat.le_trans hz (by decide), pl, pu, ?_⟩
  refine k _ _ ((Step0.push s₃ _).trans (Step0.push _ _)) ⟨0, ?_⟩ (Heap.get?_none_of_le (Nat.le_succ _))
  have := Heap.get?_push_size (s₃.heap.push { cls := .type "slice", data := .fields #[vl, vu, .none] }) (o := { cls := .type "list", data := .seq (slicePick vs.toArray lo hi none) }) rfl
  rw [Heap.size_push] at this
  rw [this, kms_pick_eq]
theorem pick_upto (vs : List Value) (k : Nat) : kms_pick vs none (some k) = vs.take k := by
  unfold kms_pick kms_lo kms_hi
  have : ¬ ((k : Int) < 0) := by omega
  simp [this]
theorem pick_from (vs : List Value) (k : Nat) : kms_pick vs (some k) none = vs.drop k := by
  unfold kms_pick kms_lo kms_hi
  have : ¬ ((k : Int) < 0) := by omega
  simp only [this, if_false, Int.toNat_natCast]
  by_cases h : k ≤ vs.length
  · rw [Nat.min_eq_left h, ← List.length_drop, List.take_length]
  · rw [Nat.min_eq_right (by omega), List.drop_length, List.drop_eq_nil_of_le (by omega)]; simp
/-- an item of a list at a place in it -/
theorem sub_item {value slice : Expr} {l : Addr} {vs : List Value} {k : Nat} {t : Tok} {v : Value} (h : IsL s l vs) (hx : vs[k]? = some v) (hz : vs.length ≤ 1000) (hq : Q v s)
    (hs : subscripted slice false (.ref l) (.int k t) = operate [.int k t, .ref l] (getItem (.ref l) (.int k t))) :
    wpAny (model prog w) A (subscriptTail value slice (.ref l) (.int k t)) Q NoE s := by
  have hk : k < vs.length := (List.getElem?_eq_some_iff.mp hx).1
  refine tail_any h.is.typeIs slot_list_getitem.lookup ?_ hs
  exact wpAny_getItem_list h.is (by omega) (by omega) (by simpa using hx) hq
end
end Mine
end
section
open PySem PySem.W PySem.W.X PyProof.Rows
namespace Mine

/-- a def that is run since s₀ -/
structure Run (env : Env) (s₀ : Shared) (m cm : Str → Option Value) (s : Shared) : Prop where
  act : Act env m cm s
  since : Step0 s₀ s
  new : ∀ b, Hot env b → s₀.heap.get? b = none
theorem Run.step0 {env : Env} {s₀ s s' : Shared} {m cm} (F : Run env s₀ m cm s) (h : Step0 s s') : Run env s₀ m cm s' := ⟨F.act.step0 h, F.since.trans h, F.new⟩
theorem Step0.hot {env : Env} {s₀ s s' : Shared} (h0 : Step0 s₀ s) (h : Step (Hot env) s s') (n : ∀ b, Hot env b → s₀.heap.get? b = none) : Step0 s₀ s' := (Step.trans h0.up h).new fun b hb _ => n b hb
theorem Run.stepX {Y : Addr → Prop} {env : Env} {s₀ s s' : Shared} {m cm} (F : Run env s₀ m cm s) (h : Step Y s s') (hy : ∀ b, Y b → ¬ Hot env b) (hn : ∀ b, Y b → s₀.heap.get? b = none) : Run env s₀ m cm s' :=
  ⟨F.act.stepX h hy, (Step.trans (Step.up F.since) h).new fun b hb _ => hn b hb, F.new⟩
theorem Run.cold {env : Env} {s₀ s : Shared} {m cm} (F : Run env s₀ m cm s) {b : Addr} {o : Obj} (h : s₀.heap.get? b = some o) : ¬ Hot env b := fun q => by
  have := F.new b q
  rw [h] at this; cases this
theorem keepN {x y : Str} {m : Str → Option Value} {a v : Option Value} (h : m y = a) (n : decide (y = x) = false := by kernel_rfl) : (fun z => if z = x then v else m z) y = a := by
  show (if y = x then v else m y) = a
  rw [if_neg (of_decide_eq_false n)]; exact h
theorem putN {x : Str} {m : Str → Option Value} {v : Option Value} : (fun z => if z = x then v else m z) x = v := by
  show (if x = x then v else m x) = v
  rw [if_pos rfl]
theorem Run.newAt {env : Env} {s₀ s : Shared} {m cm} (F : Run env s₀ m cm s) {b : Addr} (h : s.heap.get? b = none) : s₀.heap.get? b = none := F.since.notThere h
theorem Run.hotAt {env : Env} {s₀ s : Shared} {m cm} (F : Run env s₀ m cm s) {b : Addr} (h : s.heap.get? b = none) : ¬ Hot env b := F.act.hot h

section
variable {prog : Program} {w : World} {A : Around} {s s₀ : Shared} {env : Env} {m cm : Str → Option Value} {Q : Value → Shared → Prop}
theorem g_int {M : Model} {E} {i : Int} {k pos} (h : ∀ t s', Step0 s s' → Q (.int i t) s') : wpAny M A (eval (.Constant (.int i) k pos) env) Q E s := wpAny_Constant_int (h _ _ (Step0.toks _ _))
theorem g_str {M : Model} {E} {x : Str} {k pos} (h : ∀ t s', Step0 s s' → Q (.str x t) s') : wpAny M A (eval (.Constant (.str x) k pos) env) Q E s := Calls.Constant_str (h _ _ (Step0.toks _ _))
theorem g_addi {a b : Int} {t u : Tok} (h : ∀ t s', Step0 s s' → Q (.int (a + b) t) s') : wpAny (model prog w) A (inplaceOp .Add (.int a t) (.int b u)) Q NoE s := PyProof.Rows.iadd_int (h _ _ (Step0.toks _ _))
theorem g_st {x : Str} {v : Value} {Q : Unit → Shared → Prop} {M : Model} {E} (F : Run env s₀ m cm s)
    (h : ∀ s', Run env s₀ (fun y => if y = x then some v else m y) cm s' → Step (Hot env) s s' → Q () s')
    (hl : env.kindOf x = some .local := by kernel_rfl) (hp : (env.scope.kind == .class || (env.scope.kind == .module && env.locals != env.globals)) = false := by kernel_rfl) :
    wpAny M A (storeName env x v) Q E s := st_local F.act (fun s' a st => h s' ⟨a, F.since.hot st F.new, F.new⟩ st) hl hp
theorem g_stc {x : Str} {c : Addr} {v : Value} {Q : Unit → Shared → Prop} {M : Model} {E} (F : Run env s₀ m cm s) (hc : env.cells.lookup x = some c)
    (h : ∀ s', Run env s₀ m (fun y => if y = x then some v else cm y) s' → Step (Hot env) s s' → Q () s')
    (hk : env.scope.kind = .function := by kernel_rfl) (hl : env.kindOf x = some .cell := by kernel_rfl) :
    wpAny M A (storeName env x v) Q E s := st_cell F.act hc (fun s' a st => h s' ⟨a, F.since.hot st F.new, F.new⟩ st) hk hl
theorem g_ld {x : Str} {pos : Pos} {v : Value} {M : Model} {E} (F : Run env s₀ m cm s) (hv : m x = some v) (h : Q v s)
    (hk : env.scope.kind = .function := by kernel_rfl) (hl : env.kindOf x = some .local := by kernel_rfl) (hd : (x == ("__debug__" : Str)) = false := by kernel_rfl) :
    wpAny M A (eval (.Name x pos) env) Q E s := ld_local F.act hv h hk hl hd
theorem g_ldn {x : Str} {v : Value} {M : Model} {E} (F : Run env s₀ m cm s) (hv : m x = some v) (h : Q v s)
    (hk : env.scope.kind = .function := by kernel_rfl) (hl : env.kindOf x = some .local := by kernel_rfl) : wpAny M A (loadName env x) Q E s := ldn_local F.act hv h hk hl
theorem g_ldc {x : Str} {c : Addr} {pos : Pos} {v : Value} {M : Model} {E} (F : Run env s₀ m cm s) (hc : env.cells.lookup x = some c) (hv : cm x = some v) (h : Q v s)
    (hk : env.scope.kind = .function := by kernel_rfl) (hl : env.kindOf x = some .cell := by kernel_rfl) (hd : (x == ("__debug__" : Str)) = false := by kernel_rfl) :
    wpAny M A (eval (.Name x pos) env) Q E s := ld_cell F.act hc hv h hk hl hd
theorem Run.K {P : Params} (F : Run env s₀ m cm s) (X : (KP P).In s₀.heap) : (KP P).In s.heap := KP.step0 X F.since
theorem g_glob {x : Str} {pos : Pos} {M : Model} {E} {P : Params} (F : Run env s₀ m cm s) (X : (KP P).In s₀.heap) (v : Value) (h : Q v s) (e : nsIn (KP P) mainGlobals x = some (some v) := by kernel_rfl)
    (hk : env.scope.kind = .function := by kernel_rfl) (hl : env.kindOf x = some .globalImplicit := by kernel_rfl) (hg : env.globals = mainGlobals := by kernel_rfl) (hd : (x == ("__debug__" : Str)) = false := by kernel_rfl) :
    wpAny M A (eval (.Name x pos) env) Q E s := ld_glob (F.K X) e h hk hl hg hd
theorem g_built {x : Str} {pos : Pos} {M : Model} {E} {P : Params} (F : Run env s₀ m cm s) (X : (KP P).In s₀.heap) (v : Value) (h : Q v s) (e : nsIn (KP P) mainGlobals x = some none := by kernel_rfl) (e2 : nsIn (KP P) builtinsNs x = some (some v) := by kernel_rfl)
    (hk : env.scope.kind = .function := by kernel_rfl) (hl : env.kindOf x = some .globalImplicit := by kernel_rfl) (hg : env.globals = mainGlobals := by kernel_rfl) (hb : env.builtins = builtinsNs := by kernel_rfl) (hd : (x == ("__debug__" : Str)) = false := by kernel_rfl) :
    wpAny M A (eval (.Name x pos) env) Q E s := ld_built (F.K X) e e2 h hk hl hg hb hd

theorem while_rule {test : Expr} {body : List Stmt} {pos : Pos} {Q : Flow → Shared → Prop} (J : Nat → Shared → Prop) (n : Nat) (h0 : J n s)
    (turn : ∀ n s, J n s → wpAny (model prog w) A (isTrue test env (eval test env)) (fun b s₂ => if b then wpAny (model prog w) A (execs body env) (fun f s₃ => match f with
            | .next | .cont => ∃ m, m < n ∧ J m s₃
            | .brk => Q .next s₃
            | .ret v => Q (.ret v) s₃) NoE s₂ else Q .next s₂) NoE s) :
    wpAny (model prog w) A (exec (.While test body [] pos) env) Q NoE s := by
  refine wpAny_While (codeAny_whileLoop J (fun n s j => ?_) n h0)
  refine wpAny_mono (turn n s j) (fun b s₂ q => ?_) fun _ _ q => q.elim
  cases b with
  | true => exact noE q
  | false => exact wpAny_execs_nil q
end
end Mine
end
section
open PySem PySem.W PySem.W.X PyProof.Rows
namespace Mine

/-! comprehensions -/
def clFrom : List (Str × NameKind) → List (Str × Addr) → List (Str × Addr) → List (Str × Addr)
  | [], _, acc => acc
  | (n, k) :: r, cells, acc => if k == .free then (match cells.lookup n with
    | some c => clFrom r cells ((n, c) :: acc)
    | none => clFrom r cells acc) else clFrom r cells acc
theorem clFrom_sub {cells : List (Str × Addr)} : ∀ (l : List (Str × NameKind)) (acc : List (Str × Addr)), (∀ n c, (n, c) ∈ acc → cells.lookup n = some c) → ∀ n c, (n, c) ∈ clFrom l cells acc → cells.lookup n = some c := by
  intro l
  induction l with
  | nil => intro acc h; exact h
  | cons p r ih =>
    obtain ⟨n, k⟩ := p
    intro acc h
    unfold clFrom
    split
    · split
      · rename_i c hc
        refine ih _ fun n' c' hm => ?_
        rcases List.mem_cons.mp hm with e | e
        · cases e; exact hc
        · exact h _ _ e
      · exact ih _ h
    · exact ih _ h
def clOk (l : List (Str × NameKind)) (cells : List (Str × Addr)) : Bool := l.all fun x => !(x.2 == .free) || (cells.lookup x.1).isSome
def clOf (scope : Scope) (env : Env) : List (Str × Addr) := clFrom scope.names env.cells []
theorem closure_eq {scope : Scope} {env : Env} (h : clOk scope.names env.cells = true) : closureFor scope env = pure (clOf scope env) := by
  unfold closureFor clOf
  suffices H : ∀ (l : List (Str × NameKind)) acc, clOk l env.cells = true → (forIn l acc fun x r => match x with
      | (name, kind) => if (kind == NameKind.free) = true then do let c ← cellOf env name; pure (ForInStep.yield ((name, c) :: r)) else pure (ForInStep.yield r) : Sem (List (Str × Addr))) = pure (clFrom l env.cells acc) by
    have := H scope.names [] h
    refine Eq.trans ?_ this
    exact bind_pure _
  intro l
  induction l with
  | nil => intro acc _; rfl
  | cons p r ih =>
    obtain ⟨n, k⟩ := p
    intro acc hok
    unfold clOk at hok
    rw [List.all_cons, Bool.and_eq_true] at hok
    rw [List.forIn_cons]
    unfold clFrom
    by_cases hk : (k == NameKind.free) = true
    · simp only [hk, if_true]
      have : (env.cells.lookup n).isSome = true := by simpa [hk] using hok.1
      obtain ⟨c, hc⟩ := Option.isSome_iff_exists.mp this
      rw [hc]
      have hcell : cellOf env n = pure c := by unfold cellOf; rw [hc]
      rw [hcell]
      exact ih _ hok.2
    · simp only [hk]
      exact ih _ hok.2

section
variable {prog : Program} {w : World} {A : Around} {s : Shared} {env : Env}
abbrev testsOf (ifs : List Expr) (env : Env) : Sem Bool := forIn ifs true fun c r => if r = true then do let ok ← isTrue c env (eval c env); pure (ForInStep.yield ok) else pure (ForInStep.yield r)
abbrev turnOf (pos : Pos) (target : Expr) (ifs : List Expr) (tail : Sem Fin) (e : Expr) (depth : Nat) (it acc : Value) (env : Env) : Sem Fin :=
  standAt pos >>= fun _ => pyNext it >>= fun r => match r with
      | none => pure (.done .next)
      | some v => letOwnedTupleGo target it v >>= fun _ => assign target env v >>= fun _ => testsOf ifs env >>= fun ok =>
        if ok then tail else again (.compLoop e depth it acc env)
/-- the loop of one clause of a list's comprehension -/
theorem comp_loopT {elt : Expr} {gens : List Comprehension} {scope : Scope} {epos pos : Pos} {depth : Nat} {acc : Value} {target : Expr} {ifs : List Expr} {tail : Sem Fin} {I : Addr} {Dp Y : Addr → Prop} {n : Nat}
    {B : Nat → (Str → Option Value) → (Str → Option Value) → Prop} {St : Nat → Shared → Prop} {R : Result → Shared → Prop}
    (hturn : compTurn (.ListComp elt gens scope epos) depth (.ref I) acc env = turnOf pos target ifs tail (.ListComp elt gens scope epos) depth (.ref I) acc env)
    (S : Src prog w A env target I Dp Y n B St) (J : Nat → Shared → Prop) (st0 : St 0 s) (j0 : J 0 s)
    (turn : ∀ i s, i < n → J i s → ∃ m cm, Act env m cm s ∧ ∀ m' s', B i m m' → Act env m' cm s' → Step (fun b => b = env.locals ∨ Y b) s s' → St (i + 1) s' →
      wpAny (model prog w) A (testsOf ifs env) (fun ok s'' => if ok = true then wpAny (model prog w) A tail (fun f s₃ => f = .again (.compLoop (.ListComp elt gens scope epos) depth (.ref I) acc env) ∧ J (i + 1) s₃ ∧ St (i + 1) s₃) NoE s'' else J (i + 1) s'' ∧ St (i + 1) s'') NoE s')
    (fin : ∀ s s', J n s → Step Y s s' → R (.ok .next) s') :
    codeAny (model prog w) A (.compLoop (.ListComp elt gens scope epos) depth (.ref I) acc env) R s := by
  refine codeAny_loop rfl (fun k s => ∃ i, i ≤ n ∧ k = n - i ∧ St i s ∧ J i s) (fun k s h => ?_) n ⟨0, Nat.zero_le _, by omega, st0, j0⟩
  obtain ⟨i, hi, rfl, st, j⟩ := h
  show wpAny _ A ((compTurn (.ListComp elt gens scope epos) depth (.ref I) acc env).onRaise (fun x => do noteFrame x env; theTreesLotGoes x)) _ _ s
  refine wpAny_noted ?_
  rw [hturn]
  refine wpAny_bind (wpAny_standAt (wpAny_bind ?_))
  by_cases hlt : i < n
  · obtain ⟨m, cm, F, go⟩ := turn i s hlt j
    refine noE (wpAny_mono (S.item i s m cm (fun s' => wpAny (model prog w) A (testsOf ifs env) (fun ok s'' => if ok = true then wpAny (model prog w) A tail (fun f s₃ => f = .again (.compLoop (.ListComp elt gens scope epos) depth (.ref I) acc env) ∧ J (i + 1) s₃ ∧ St (i + 1) s₃) NoE s'' else J (i + 1) s'' ∧ St (i + 1) s'') NoE s') hlt st F fun m' s' hb F' hst st' => go m' s' hb F' hst st') (fun r s₁ h₁ => ?_) fun _ _ q => q)
    cases r with
    | none => exact h₁.elim
    | some v =>
      refine wpAny_bind (noE (wpAny_mono h₁ (fun _ s₂ h₂ => wpAny_bind (noE (wpAny_mono h₂ (fun _ s₃ h₃ => wpAny_bind (noE (wpAny_mono h₃ (fun ok s₄ h₄ => ?_) fun _ _ q => q))) fun _ _ q => q))) fun _ _ q => q))
      cases ok with
      | true =>
        simp only [if_true] at h₄ ⊢
        refine noE (wpAny_mono h₄ (fun f s₅ h₅ => ?_) fun _ _ q => q)
        obtain ⟨rfl, h₅⟩ := h₅
        exact ⟨rfl, n - (i + 1), by omega, i + 1, hlt, rfl, h₅.2, h₅.1⟩
      | false =>
        simp only [Bool.false_eq_true, if_false] at h₄ ⊢
        exact wpAny_pure ⟨rfl, n - (i + 1), by omega, i + 1, hlt, rfl, h₄.2, h₄.1⟩
  · have hin : i = n := by omega
    subst hin
    refine noE (wpAny_mono (S.done s (fun s' => R (.ok .next) s') st fun s' hs' => fin s s' j hs') (fun r s₁ h₁ => ?_) fun _ _ q => q)
    cases r with
    | none => exact wpAny_pure h₁
    | some v => exact h₁.elim
theorem comp_loop {elt : Expr} {gens : List Comprehension} {scope : Scope} {epos pos : Pos} {depth : Nat} {acc : Value} {target : Expr} {ifs : List Expr} {inner : Sem Unit} {I : Addr} {Dp Y : Addr → Prop} {n : Nat}
    {B : Nat → (Str → Option Value) → (Str → Option Value) → Prop} {St : Nat → Shared → Prop} {R : Result → Shared → Prop}
    (hturn : compTurn (.ListComp elt gens scope epos) depth (.ref I) acc env = turnOf pos target ifs (inner >>= fun _ => again (.compLoop (.ListComp elt gens scope epos) depth (.ref I) acc env)) (.ListComp elt gens scope epos) depth (.ref I) acc env)
    (S : Src prog w A env target I Dp Y n B St) (J : Nat → Shared → Prop) (st0 : St 0 s) (j0 : J 0 s)
    (turn : ∀ i s, i < n → J i s → ∃ m cm, Act env m cm s ∧ ∀ m' s', B i m m' → Act env m' cm s' → Step (fun b => b = env.locals ∨ Y b) s s' → St (i + 1) s' →
      wpAny (model prog w) A (testsOf ifs env) (fun ok s'' => if ok = true then wpAny (model prog w) A inner (fun _ s₃ => J (i + 1) s₃ ∧ St (i + 1) s₃) NoE s'' else J (i + 1) s'' ∧ St (i + 1) s'') NoE s')
    (fin : ∀ s s', J n s → Step Y s s' → R (.ok .next) s') :
    codeAny (model prog w) A (.compLoop (.ListComp elt gens scope epos) depth (.ref I) acc env) R s := by
  refine comp_loopT hturn S J st0 j0 (fun i s hi j => ?_) fin
  obtain ⟨m, cm, F, go⟩ := turn i s hi j
  refine ⟨m, cm, F, fun m' s' b F' h st => wpAny_mono (go m' s' b F' h st) (fun ok s'' q => ?_) fun _ _ q => q⟩
  cases ok with
  | true =>
    simp only [if_true] at q ⊢
    exact wpAny_bind (wpAny_mono q (fun _ s₃ q => wpAny_pure ⟨rfl, q⟩) fun _ _ q => q)
  | false =>
    simp only [Bool.false_eq_true, if_false] at q ⊢
    exact q
end
end Mine
end
section
open PySem PySem.W PySem.W.X PyProof.Rows
namespace Mine

theorem SameBut.step {s : Shared} {C : Addr} {h' : Heap} {m} (hn : s.heap.Ns C m) (hs : Heap.SameBut C s.heap h') : Step (fun b => b = C) s { s with heap := h' } := Step.of_same (t := s.toks) rfl hs fun o e => by
  obtain ⟨o', es, ep, e', d, _⟩ := hn
  rw [e] at e'; cases e'; exact plain_dict d

section
variable {prog : Program} {w : World} {A : Around} {s : Shared} {env : Env}
/-- the frame of a comprehension -/
abbrev cEnv (scope : Scope) (env : Env) (C : Addr) : Env := compEnvC scope (clOf scope env) C env
theorem lookup_relabel {names : List (Str × NameKind)} (hcell : (names.all fun x => !(x.2 == .cell)) = true) {n : Str} (h : (names.map fun (n, k) => if (k == .free && env.scope.kind == .function && env.kindOf n == some .cell) then (n, NameKind.cell) else (n, k)).lookup n = some .cell) : env.kindOf n = some .cell := by
  induction names with
  | nil => cases h
  | cons p r ih =>
    obtain ⟨a, k⟩ := p
    rw [List.all_cons, Bool.and_eq_true] at hcell
    simp only [List.map_cons] at h
    by_cases hc : (k == NameKind.free && env.scope.kind == .function && env.kindOf a == some .cell) = true
    · rw [if_pos hc, List.lookup_cons] at h
      split at h
      · rename_i e
        rw [Bool.and_eq_true] at hc
        rw [beq_iff_eq.mp e]
        exact beq_iff_eq.mp hc.2
      · exact ih hcell.2 h
    · rw [if_neg hc, List.lookup_cons] at h
      split at h
      · cases h
        cases hcell.1
      · exact ih hcell.2 h
theorem cl_sub {scope : Scope} {C : Addr} (hcell : (scope.names.all fun x => !(x.2 == .cell)) = true) {n : Str} {c : Addr} (h : Cel (cEnv scope env C) n c) : Cel env n c :=
  ⟨clFrom_sub scope.names [] (fun _ _ hm => nomatch hm) n c (PySem.mem_of_lookup h.1), lookup_relabel hcell h.2⟩
theorem cRun {scope : Scope} (hcell : (scope.names.all fun x => !(x.2 == .cell)) = true) {s₀ : Shared} {C : Addr} {m mc cm} (F : Run env s₀ m cm s) (h4 : 406 ≤ C) (hn : s₀.heap.get? C = none) (hC : ¬ Hot env C) (hns : s.heap.Ns C mc) : Run (cEnv scope env C) s₀ mc cm s where
  act := ⟨hns, fun n c h => F.act.cell n c (cl_sub hcell h), fun n n' c h h' => F.act.apart n n' c (cl_sub hcell h) (cl_sub hcell h'), fun n c h e => hC (.inr ⟨n, (show c = C from e) ▸ cl_sub hcell h⟩), fun b hb => hb.elim (fun e => e ▸ h4) fun ⟨n, h⟩ => F.act.above b (.inr ⟨n, cl_sub hcell h⟩)⟩
  since := F.since
  new := fun b hb => hb.elim (fun e => e ▸ hn) fun ⟨n, h⟩ => F.new b (.inr ⟨n, cl_sub hcell h⟩)

/-- what a comprehension builds; Z: what it turns meanwhile -/
structure Built (prog : Program) (w : World) (A : Around) (env : Env) (elt : Expr) (ifs : List Expr) (scope : Scope) (s₀ s₂ : Shared) (cm : Str → Option Value) (n : Nat) (B : Nat → (Str → Option Value) → (Str → Option Value) → Prop) (Z : Addr → Prop)
    (J : Nat → List Value → Shared → Prop) : Prop where
  start : ∀ s', Step Z s₂ s' → J 0 [] s'
  stable : ∀ i ys s s', J i ys s → Step Z s s' → J i ys s'
  turn : ∀ i ys C mm m' s', i < n → J i ys s' → B i mm m' → Run (cEnv scope env C) s₀ m' cm s' → Step Z s₂ s' → (∀ b, Z b → ∃ o, s'.heap.get? b = some o) →
    wpAny (model prog w) A (testsOf ifs (cEnv scope env C)) (fun ok s'' => Step0 s' s'' ∧ if ok = true then wpAny (model prog w) A (eval elt (cEnv scope env C)) (fun y s₄ => Step0 s'' s₄ ∧ J (i + 1) (ys ++ [y]) s₄) NoE s'' else J (i + 1) ys s'') NoE s'

theorem comp_core {elt target iter : Expr} {ifs : List Expr} {scope : Scope} {pos : Pos} {s₀ s₂ : Shared} {m cm} {P : Params} {I : Addr} {Dp Y : Addr → Prop} {n : Nat} {V B St}
    {RR : Value → Addr → Result → Shared → Prop}
    (X : (KP P).In s₀.heap) (F : Run env s₀ m cm s₂) (T : Itr prog w A target I Dp Y n V St) (st0 : St 0 s₂) (hz : n ≤ 1000) (yn : ∀ b, Y b → s₀.heap.get? b = none) (cold : ∀ b, Dp b → ¬ Hot env b) (bd : ∀ i C, Bnd prog w A (cEnv scope env C) target (V i) (B i))
    (hb : ∀ Z, (∀ b, (∃ o, s₂.heap.get? b = some o) → ¬ Y b → ¬ Hot env b → ¬ Z b) → ∃ J, Built prog w A env elt ifs scope s₀ s₂ cm n B Z J ∧
      ∀ D C ys s' m', J n ys s' → (∀ b, Y b → Z b) → (∀ b, Hot env b → Z b) → Z C → Z D → IsL s' D ys → D ≠ C → ¬ Hot env C → ¬ Hot env D → s₂.heap.get? D = none → s₂.heap.get? C = none → Step (fun b => b = D ∨ b = C ∨ Y b) s₂ s' → s'.heap.Ns C m' → RR (.ref D) C (.ok .next) s')
    (hcell : (scope.names.all fun x => !(x.2 == .cell)) = true := by kernel_rfl) (hkind : scope.kind = .function := by kernel_rfl) :
    wpAny (model prog w) A (newList []) (fun acc s₃ => wpAny (model prog w) A (newFunctionEnv scope env.globals (clOf scope env) [] env.qual none .none (some env)) (fun cenv s₄ =>
      codeAny (model prog w) A (.compStart (.ListComp elt [⟨target, iter, ifs, 0⟩] scope pos) 0 (.ref I) acc { cenv with scope := relabel scope env }) (RR acc cenv.locals) s₄) NoE s₃) NoE s₂ := by
  refine op_newList (by decide) (fun D s₃ h3 hD nD hs => ?_) (size_ge (F.K X))
  refine wpAny_newFunctionEnv (fun x hx e => by
    have := List.all_eq_true.mp hcell x hx
    rw [e] at this; cases this) (by intro x hx; cases hx) (fun h' hns hsb => ?_) hkind
  generalize hC : s₃.heap.objs.size = C at hns hsb
  have c4 : 406 ≤ C := by rw [← hC]; exact size_ge ((F.step0 h3).K X)
  have nC3 : s₃.heap.get? C = none := Heap.get?_none_of_le (by rw [hC]; exact Nat.le_refl _)
  have nC : s₂.heap.get? C = none := h3.notThere nC3
  obtain ⟨oD, eD⟩ := hD.some
  have dc : D ≠ C := fun e => by rw [e, nC3] at eD; cases eD
  have s34 : Step0 s₃ { s₃ with heap := h', toks := s₃.toks + ([] : List (Str × Value)).length } := by
    refine Step0.of_heap fun b o e => ?_
    have hb : b ≠ C := fun q => by rw [q, nC3] at e; cases e
    exact (hsb.2 b hb).trans (Heap.get?_push_of_some _ e)
  generalize hs4 : ({ s₃ with heap := h', toks := s₃.toks + ([] : List (Str × Value)).length } : Shared) = s₄ at s34
  have hns4 : s₄.heap.Ns C (fun x => ([] : List (Str × Value)).reverse.lookup x) := by rw [← hs4]; exact hns
  have F4 := (F.step0 h3).step0 s34
  have hD4 := hD.step0 s34
  have hCh : ¬ Hot env C := F.hotAt nC
  have hDh : ¬ Hot env D := F.hotAt nD
  have R4 : Run (cEnv scope env C) s₀ _ cm s₄ := cRun hcell F4 c4 (F.newAt nC) hCh hns4
  have yold : ∀ b, Y b → ∃ o, s₂.heap.get? b = some o := fun b y => T.there _ _ st0 b (T.sub b y)
  have dold : ∀ b, Dp b → b ≠ D ∧ b ≠ C := fun b d => by
    obtain ⟨o, e⟩ := T.there _ _ st0 b d
    exact ⟨fun q => (by rw [q, nD] at e; cases e), fun q => (by rw [q, nC] at e; cases e)⟩
  have cold' : ∀ b, Dp b → ¬ Hot (cEnv scope env C) b := fun b d => by
    rintro (rfl | ⟨n, hn⟩)
    · exact (dold _ d).2 rfl
    · exact cold b d (.inr ⟨n, cl_sub hcell hn⟩)
  let Z : Addr → Prop := fun b => b = D ∨ b = C ∨ Y b ∨ Hot env b
  obtain ⟨J, BJ, fin⟩ := hb Z (by
    rintro b ⟨o, e⟩ ny nh (rfl | rfl | y | hh)
    · rw [nD] at e; cases e
    · rw [nC] at e; cases e
    · exact ny y
    · exact nh hh)
  have S : Src prog w A (cEnv scope env C) target I Dp Y n B St := Src.of T cold' (fun i => bd i C)
  have st4 : St 0 s₄ := T.stable (fun _ => False) 0 _ _ (T.stable (fun _ => False) 0 _ _ st0 h3 (fun _ q => q.elim)) s34 (fun _ q => q.elim)
  have zr : ∀ b, (b = D ∨ b = C ∨ Y b) → Z b := fun b h => h.elim .inl fun h => h.elim (fun h => .inr (.inl h)) fun h => .inr (.inr (.inl h))
  have loop : codeAny (model prog w) A (.compLoop (.ListComp elt [⟨target, iter, ifs, 0⟩] scope pos) 0 (.ref I) (.ref D) (cEnv scope env C)) (RR (.ref D) C) s₄ := by
    refine comp_loop (pos := iter.pos) (inner := do let _ ← call (.builtin "list.append") [.ref D, ← eval elt (cEnv scope env C)]) rfl S
      (fun i s' => ∃ ys m', J i ys s' ∧ ys.length ≤ i ∧ IsL s' D ys ∧ Run (cEnv scope env C) s₀ m' cm s' ∧ Step (fun b => b = D ∨ b = C ∨ Y b) s₂ s' ∧ ∀ b, Z b → ∃ o, s'.heap.get? b = some o) st4
      ⟨[], _, BJ.start _ ((h3.trans s34).up), Nat.le_refl _, hD4, R4, (h3.trans s34).up, ?_⟩ ?_ ?_
    · rintro b (rfl | rfl | y | hh)
      · exact hD4.some
      · obtain ⟨o, _, _, e, _⟩ := hns4; exact ⟨o, e⟩
      · obtain ⟨o, e⟩ := yold b y
        exact (h3.trans s34).there b o e (fun q => q)
      · cases e : s₂.heap.get? b with
        | some o => exact (h3.trans s34).there b o e (fun q => q)
        | none => exact absurd hh (F.hotAt e)
    · rintro i s₅ hi ⟨ys, m₅, j, hy, hD5, R5, h5, ex⟩
      refine ⟨m₅, cm, R5.act, fun m' s₆ hb F6 h6 st6 => ?_⟩
      have h6' : Step (fun b => b = D ∨ b = C ∨ Y b) s₅ s₆ := h6.mono fun b e => e.elim (fun e => .inr (.inl e)) fun e => .inr (.inr e)
      have R6 : Run (cEnv scope env C) s₀ m' cm s₆ := ⟨F6, (Step.trans F.since.up (h5.trans h6')).new (fun b hb _ => by
        rcases hb with rfl | rfl | y
        · exact F.newAt nD
        · exact F.newAt nC
        · exact yn _ y), R5.new⟩
      have j6 := BJ.stable _ _ _ _ j (h6'.mono zr)
      have ex6 : ∀ b, Z b → ∃ o, s₆.heap.get? b = some o := fun b z => by
        by_cases hx : b = (cEnv scope env C).locals ∨ Y b
        · rcases hx with rfl | y
          · obtain ⟨o, _, _, e, _⟩ := F6.ns; exact ⟨o, e⟩
          · exact T.there _ _ st6 b (T.sub b y)
        · obtain ⟨o, e⟩ := ex b z
          exact h6.there b o e hx
      have hD6 : IsL s₆ D ys := hD5.step h6 (fun q => q.elim (fun e => dc e) fun y => (dold D (T.sub D y)).1 rfl)
      refine wpAny_mono (BJ.turn i ys C m₅ m' s₆ hi j6 hb R6 ((h5.trans h6').mono zr) ex6) (fun ok s₇ h₇ => ?_) fun _ _ q => q
      obtain ⟨h7, h₇⟩ := h₇
      cases ok with
      | false =>
        simp only [Bool.false_eq_true, if_false] at h₇ ⊢
        exact ⟨⟨ys, m', h₇, Nat.le_succ_of_le hy, hD6.step0 h7, R6.step0 h7, (h5.trans h6').trans h7.up, fun b z => let ⟨o, e⟩ := ex6 b z; h7.there b o e (fun q => q)⟩, T.stable _ _ _ _ st6 h7 (fun _ q => q.elim)⟩
      | true =>
        simp only [if_true] at h₇ ⊢
        refine wpAny_bind (wpAny_mono h₇ (fun y s₈ h₈ => wpAny_bind ?_) fun _ _ q => q)
        obtain ⟨h8, j8⟩ := h₈
        have h78 := h7.trans h8
        have hD8 := hD6.step0 h78
        refine op_append hD8 (by omega) (fun s₉ hD9 h9 => wpAny_pure ?_)
        have R8 := R6.step0 h78
        have dh : ¬ Hot (cEnv scope env C) D := by
          rintro (e | ⟨n, hn⟩)
          · exact dc e
          · exact hDh (.inr ⟨n, cl_sub hcell hn⟩)
        refine ⟨⟨ys ++ [y], m', BJ.stable _ _ _ _ j8 (h9.mono fun b e => .inl e), by simp; omega, hD9, R8.stepX h9 (fun b e => e ▸ dh) (fun b e => e ▸ F.newAt nD), ((h5.trans h6').trans h78.up).trans (h9.mono fun b e => .inl e), fun b z => ?_⟩, T.stable _ _ _ _ (T.stable _ _ _ _ st6 h78 (fun _ q => q.elim)) h9 (fun b e d => (dold b d).1 e)⟩
        by_cases hx : b = D
        · exact hx ▸ hD9.some
        · obtain ⟨o, e⟩ := ex6 b z
          obtain ⟨o', e'⟩ := h78.there b o e (fun q => q)
          exact h9.there b o' e' hx
    · rintro s₅ s₆ ⟨ys, m₅, j, hy, hD5, R5, h5, ex⟩ h6
      have h6' : Step (fun b => b = D ∨ b = C ∨ Y b) s₅ s₆ := h6.mono fun b e => .inr (.inr e)
      exact fin D C ys s₆ m₅ (BJ.stable _ _ _ _ j (h6'.mono zr)) (fun b y => .inr (.inr (.inl y))) (fun b y => .inr (.inr (.inr y))) (.inr (.inl rfl)) (.inl rfl) (hD5.step h6 fun y => (dold D (T.sub D y)).1 rfl) dc hCh hDh nD nC (h5.trans h6')
        (Ns.stepX R5.act.ns h6 fun y => (dold C (T.sub C y)).2 rfl)
  show codeAny (model prog w) A (.compStart (.ListComp elt [⟨target, iter, ifs, 0⟩] scope pos) 0 (.ref I) (.ref D) (cEnv scope env C)) (RR (.ref D) C) s₄
  exact codeAny_compStart_list loop (noE (T.self s₄ _ st4 loop))

theorem comp_rule {elt target iter : Expr} {ifs : List Expr} {scope : Scope} {pos : Pos} {s₀ : Shared} {m cm} {P : Params} {Q : Value → Shared → Prop} (X : (KP P).In s₀.heap) (F : Run env s₀ m cm s)
    (h : wpAny (model prog w) A (eval iter env) (fun xv s₁ => wpAny (model prog w) A (pyIter xv) (fun it s₂ => ∃ I Dp Y n V B St, it = .ref I ∧ Step0 s s₂ ∧ (∀ b, Y b → s.heap.get? b = none) ∧ Itr prog w A target I Dp Y n V St ∧ St 0 s₂ ∧ n ≤ 1000 ∧
      (∀ b, Dp b → ¬ Hot env b) ∧ (∀ i C, Bnd prog w A (cEnv scope env C) target (V i) (B i)) ∧
      ∀ Z, (∀ b, (∃ o, s₂.heap.get? b = some o) → ¬ Y b → ¬ Hot env b → ¬ Z b) → ∃ J, Built prog w A env elt ifs scope s₀ s₂ cm n B Z J ∧
        ∀ D ys s', J n ys s' → IsL s' D ys → s.heap.get? D = none → Step0 s s' → Step Z s₂ s' → Q (.ref D) s') NoE s₁) NoE s)
    (hok : clOk scope.names env.cells = true := by kernel_rfl) (hcell : (scope.names.all fun x => !(x.2 == .cell)) = true := by kernel_rfl) (hkind : scope.kind = .function := by kernel_rfl)
    (hnames : (scope.names.all fun x => !(x.2 == .local) || scope.names.lookup x.1 == some .local) = true := by kernel_rfl) (hs : ∀ x, foldedSetIterable iter env x = pure x := by intro _; rfl) :
    wpAny (model prog w) A (eval (.ListComp elt [⟨target, iter, ifs, 0⟩] scope pos) env) Q NoE s := by
  rw [eval_ListComp]
  refine wpAny_comprehension_free (use := none) rfl hs (closure_eq hok) hkind (fun x hx e => by
    have := List.all_eq_true.mp hnames x hx
    rw [e] at this
    simpa using this) (wpAny_mono h (fun xv s₁ h₁ => wpAny_mono h₁ (fun it s₂ h₂ => ?_) fun _ _ e => e) fun _ _ e => e)
  obtain ⟨I, Dp, Y, n, V, B, St, rfl, h02, yn, T, st0, hz, cold, bd, hb⟩ := h₂
  refine comp_core (RR := fun acc C => compPost (model prog w) A NoE none Q acc C) X (F.step0 h02) T st0 hz (fun b y => F.newAt (yn b y)) cold bd (fun Z hZ => ?_) hcell hkind
  obtain ⟨J, BJ, fin⟩ := hb Z hZ
  refine ⟨J, BJ, fun D C ys s' m' j zy zh zc zd hD dc hCh hDh nD nC st hns => ?_⟩
  refine ⟨m', hns, fun h'' hs'' => ?_⟩
  have s1 : Step (fun b => b = C) s' { s' with heap := h'' } := SameBut.step hns hs''
  have s2 : Step (fun b => b = D ∨ b = C ∨ Y b) s₂ { s' with heap := h'' } := st.trans (s1.mono fun b e => .inr (.inl e))
  refine fin D ys _ (BJ.stable _ _ _ _ j (s1.mono fun b e => e ▸ zc)) (hD.step s1 dc) (h02.notThere nD) ((Step.trans h02.up s2).new fun b hb _ => ?_) (s2.mono fun b e => ?_)
  · rcases hb with rfl | rfl | y
    · exact h02.notThere nD
    · exact h02.notThere nC
    · exact yn _ y
  · rcases e with rfl | rfl | y
    · exact zd
    · exact zc
    · exact zy _ y

theorem comp_assign {elt target iter : Expr} {ifs : List Expr} {scope : Scope} {pos py spos : Pos} {y : Str} {s₀ : Shared} {m cm} {P : Params} {Q : Flow → Shared → Prop} (X : (KP P).In s₀.heap) (F : Run env s₀ m cm s)
    (h : wpAny (model prog w) A (eval iter env) (fun xv s₁ => wpAny (model prog w) A (pyIter xv) (fun it s₂ => ∃ I Dp Y n V B St, it = .ref I ∧ Step0 s s₂ ∧ (∀ b, Y b → s.heap.get? b = none) ∧ Itr prog w A target I Dp Y n V St ∧ St 0 s₂ ∧ n ≤ 1000 ∧
      (∀ b, Dp b → ¬ Hot env b) ∧ (∀ i C, Bnd prog w A (cEnv scope env C) target (V i) (B i)) ∧
      ∀ Z, (∀ b, (∃ o, s₂.heap.get? b = some o) → ¬ Y b → ¬ Hot env b → ¬ Z b) → ∃ J, Built prog w A env elt ifs scope s₀ s₂ cm n B Z J ∧
        ∀ D ys s', J n ys s' → IsL s' D ys → s.heap.get? D = none → Run env s₀ (fun z => if z = y then some (.ref D) else m z) cm s' → Step (Hot env) s s' → Q .next s') NoE s₁) NoE s)
    (hsw : swapsWith (.ListComp elt [⟨target, iter, ifs, 0⟩] scope pos) (some (.Name y py)) spos.line env = pure true := by kernel_rfl)
    (hl : env.kindOf y = some .local := by kernel_rfl) (hp : (env.scope.kind == .class || (env.scope.kind == .module && env.locals != env.globals)) = false := by kernel_rfl)
    (hok : clOk scope.names env.cells = true := by kernel_rfl) (hcell : (scope.names.all fun x => !(x.2 == .cell)) = true := by kernel_rfl) (hkind : scope.kind = .function := by kernel_rfl)
    (hnames : (scope.names.all fun x => !(x.2 == .local) || scope.names.lookup x.1 == some .local) = true := by kernel_rfl) (hs : ∀ x, foldedSetIterable iter env x = pure x := by intro _; rfl) :
    wpAny (model prog w) A (exec (.Assign [.Name y py] (.ListComp elt [⟨target, iter, ifs, 0⟩] scope pos) spos) env) Q NoE s := by
  rw [exec_Assign_Name_used _ _ _ _ hsw]
  refine wpAny_bind (wpAny_standAt (wpAny_bind ?_))
  rw [arm_evalThenUse_ListComp]
  refine wpAny_bind (wpAny_mono (Q := fun _ s' => Q .next s') (wpAny_comprehension_free (use := some (assign (.Name y py) env)) rfl hs (closure_eq hok) hkind (fun x hx e => by
    have := List.all_eq_true.mp hnames x hx
    rw [e] at this
    simpa using this) (wpAny_mono h (fun xv s₁ h₁ => wpAny_mono h₁ (fun it s₂ h₂ => ?_) fun _ _ e => e) fun _ _ e => e)) (fun _ _ q => wpAny_pure (wpAny_pure q)) fun _ _ q => q)
  obtain ⟨I, Dp, Y, n, V, B, St, rfl, h02, yn, T, st0, hz, cold, bd, hb⟩ := h₂
  have F2 := F.step0 h02
  refine comp_core (RR := fun acc C => compPost (model prog w) A NoE (some (assign (.Name y py) env)) (fun _ s' => Q .next s') acc C) X F2 T st0 hz (fun b y => F.newAt (yn b y)) cold bd (fun Z hZ => ?_) hcell hkind
  obtain ⟨J, BJ, fin⟩ := hb Z hZ
  refine ⟨J, BJ, fun D C ys s' m' j zy zh zc zd hD dc hCh hDh nD nC st hns => ?_⟩
  have F' : Run env s₀ m cm s' := F2.stepX st (by
    rintro b (rfl | rfl | y)
    · exact hDh
    · exact hCh
    · exact cold b (T.sub b y)) (by
    rintro b (rfl | rfl | y)
    · exact F2.newAt nD
    · exact F2.newAt nC
    · exact F.newAt (yn _ y))
  refine wpAny_assign_Name (st_local1 F'.act (fun s'' F'' st'' => ?_) hl hp)
  have hns' := Ns.stepX hns st'' fun e => hCh (.inl e)
  refine ⟨m', hns', fun h'' hs'' => ?_⟩
  have s1 : Step (fun b => b = C) s'' { s'' with heap := h'' } := SameBut.step hns' hs''
  have s2 : Step (fun b => Hot env b ∨ b = D ∨ b = C ∨ Y b) s { s'' with heap := h'' } := (h02.up.trans (st.mono fun b e => .inr e)).trans ((st''.mono fun b e => .inl (.inl e)).trans (s1.mono fun b e => .inr (.inr (.inl e))))
  have s3 : Step (Hot env) s { s'' with heap := h'' } := s2.new fun b hb nh => by
    rcases hb with hh | rfl | rfl | y
    · exact absurd hh nh
    · exact h02.notThere nD
    · exact h02.notThere nC
    · exact yn _ y
  refine fin D ys _ (BJ.stable _ _ _ _ (BJ.stable _ _ _ _ j (st''.mono fun b e => e ▸ zh _ (.inl rfl))) (s1.mono fun b e => e ▸ zc)) ((hD.step st'' fun e => hDh (.inl e)).step s1 dc) (h02.notThere nD)
    ⟨F''.stepX s1 fun b e => e ▸ hCh, F.since.hot s3 F.new, F.new⟩ s3
end
end Mine
end
section
open PySem PySem.W PySem.W.X PyProof.Rows
namespace Mine

/-- an object that is there and is no code nor a code table -/
def Real (h : Heap) (b : Addr) : Prop := ∃ o, h.get? b = some o ∧ codeish o = false
theorem Step.of_keeps {s : Shared} {wr : List Addr} {h' : Heap} {t : Nat} (hk : ∀ b o, b ∉ wr → s.heap.get? b = some o → h'.get? b = some o) (pl : ∀ b ∈ wr, Real s.heap b) : Step (fun b => b ∈ wr) s { s with heap := h', toks := t } :=
  ⟨fun b o e _ n => hk b o n e, fun b o e n => ⟨o, hk b o n e⟩, fun b o e _ n => hk b o n e, rfl, GensOk.refl _, fun x => x.keep fun b o e c => hk b o (fun q => by
    obtain ⟨o', e', c'⟩ := pl b q
    rw [e] at e'; cases e'; rw [c'] at c; cases c) e⟩
theorem Real.of {h : Heap} {b : Addr} {o : Obj} {n : String} (e : h.get? b = some o) (c : o.cls = .type n) (nc : (n == "code") = false := by rfl) : Real h b := ⟨o, e, plain_cls c nc⟩

section
variable {prog : Program} {w : World} {A : Around} {s : Shared} {env : Env}
theorem itr_of_walks {x : Str} {px : Pos} {I : Addr} {fp wr : List Addr} {n : Nat} {P : Nat → Value → Prop} {St : Nat → Heap → Prop} (W : Walks prog w A I fp wr n P St) (hr : ∀ i h, St i h → ∀ b ∈ fp, Real h b) (h4 : ∀ b ∈ wr, 406 ≤ b) :
    Itr prog w A (.Name x px) I (fun b => b ∈ fp) (fun b => b ∈ wr) n (fun i v _ => P i v) (fun i s => St i s.heap) where
  sub := W.sub
  above := h4
  there := fun i s st b e => let ⟨o, e, _⟩ := hr _ _ st b e; ⟨o, e⟩
  stable := fun Z i s s' st h n => W.frame _ _ _ st fun b hb o e => by
    obtain ⟨o', e', t⟩ := hr _ _ st b hb
    rw [e] at e'; cases e'
    exact h.keep b o e (isTab_of_codeish t) fun z => n b z hb
  self := fun s Q st h => W.self 0 s Q _ st h
  item := fun i s Q hi st h => W.item i s _ _ hi st fun v h' tk p st' hk => wpAny_pure (h v _ p (Step.of_keeps hk fun b hb => hr _ _ st b (W.sub b hb)) st')
  done := fun s Q st h => W.done s _ _ st fun h' tk hk => h _ (Step.of_keeps hk fun b hb => hr _ _ st b (W.sub b hb))
theorem itr_of_walksT {elts : List Expr} {k : Nat} {pos : Pos} {I : Addr} {fp wr : List Addr} {n : Nat} {P : Nat → Array Value → Prop} {St : Nat → Heap → Prop} {Mid : Nat → Addr → Heap → Prop} (W : WalksT prog w A I fp wr n P St Mid)
    (hr : ∀ i h, St i h → ∀ b ∈ fp, Real h b) (hm' : ∀ i T h, Mid i T h → ∀ b ∈ wr, Real h b) (h4 : ∀ b ∈ wr, 406 ≤ b) :
    Itr prog w A (.Tuple elts k pos) I (fun b => b ∈ fp) (fun b => b ∈ wr) n (fun i v s => ∃ T vals, v = .ref T ∧ P i vals ∧ s.heap.IsTuple T vals) (fun i s => St i s.heap) where
  sub := W.sub
  above := h4
  there := fun i s st b e => let ⟨o, e, _⟩ := hr _ _ st b e; ⟨o, e⟩
  stable := fun Z i s s' st h n => W.frame _ _ _ st fun b hb o e => by
    obtain ⟨o', e', t⟩ := hr _ _ st b hb
    rw [e] at e'; cases e'
    exact h.keep b o e (isTab_of_codeish t) fun z => n b z hb
  self := fun s Q st h => W.self 0 s Q _ st h
  item := fun i s Q hi st h => W.item i s _ _ hi st fun T vals h' tk p hT ht hm hk => by
    refine W.go elts k pos i T _ _ _ hm fun h'' st' hk' => ?_
    have nt : T ∉ wr := W.apart _ _ _ hm
    refine h _ _ ⟨T, vals, rfl, p, ?_⟩ ((Step.of_keeps hk fun b hb => hr _ _ st b (W.sub b hb)).trans (Step.of_keeps (s := { s with heap := h', toks := tk }) (t := tk) hk' fun b hb => hm' _ _ _ hm b hb)) st'
    obtain ⟨o, e, r⟩ := ht
    exact ⟨o, hk' _ _ nt e, r⟩
  done := fun s Q st h => W.done s _ _ st fun h' tk hk => h _ (Step.of_keeps hk fun b hb => hr _ _ st b (W.sub b hb))

theorem wpAny_inOrder_cons {M : Model} {E : Value → Shared → Prop} {t : Value → Sem Unit} {ts} {x : Value} {xs} {Q : Unit → Shared → Prop} (h : wpAny M A (t x) (fun _ s' => wpAny M A (assignInOrder ts xs) Q E s') E s) : wpAny M A (assignInOrder (t :: ts) (x :: xs)) Q E s := by
  unfold assignInOrder
  exact wpAny_bind (wpAny_holding h)
theorem wpAny_inOrder_nil {M : Model} {E : Value → Shared → Prop} {Q : Unit → Shared → Prop} (h : Q () s) : wpAny M A (assignInOrder [] []) Q E s := by
  unfold assignInOrder
  exact wpAny_pure h
theorem Step.of_extBut {X : Addr → Prop} {s : Shared} {h' : Heap} (hx : Heap.ExtBut s.heap.objs.size s.heap h') : Step X s { s with heap := h' } :=
  have k : ∀ b o, s.heap.get? b = some o → h'.get? b = some o := fun b o e => hx b o (Nat.ne_of_lt (Heap.lt_size e)) e
  ⟨fun b o e _ _ => k b o e, fun b o e _ => ⟨o, k b o e⟩, fun b o e _ _ => k b o e, rfl, GensOk.refl _, fun x => x.keep fun b o e _ => k b o e⟩

theorem isTuple_step {X : Addr → Prop} {s s' : Shared} {a : Addr} {vs} (h : s.heap.IsTuple a vs) (st : Step X s s') (n : ¬ X a) : s'.heap.IsTuple a vs := let ⟨o, e, c, d⟩ := h; ⟨o, st.keep _ _ e (by unfold isTab; rw [c]) n, c, d⟩
/-- two names take a pair -/
theorem bnd_pair {a b : Str} {pa pb pos : Pos} {k : Nat} {V : Value → Shared → Prop} {G : Value → Value → Prop} (hh : A.handled = none) (hV : ∀ v s, V v s → ∃ T p q, v = .ref T ∧ G p q ∧ s.heap.IsTuple T #[p, q])
    (ha : env.kindOf a = some .local) (hb : env.kindOf b = some .local) (hp : (env.scope.kind == .class || (env.scope.kind == .module && env.locals != env.globals)) = false) (hab : a ≠ b := by decide) :
    Bnd prog w A env (.Tuple [.Name a pa, .Name b pb] k pos) V (fun m m' => ∃ p q, G p q ∧ m' a = some p ∧ m' b = some q ∧ ∀ y, y ≠ a → y ≠ b → m' y = m y) := by
  intro s v m cm Q hv F h
  obtain ⟨T, p, q, rfl, g, ht⟩ := hV _ _ hv
  refine wpAny_assign_Tuple hh ht rfl rfl fun h' hx => ?_
  have h1 : Step (fun b => b = env.locals) s { s with heap := h' } := Step.of_extBut hx
  have F1 := F.step0 (Step.of_extBut hx)
  refine wpAny_inOrder_cons (wpAny_assign_Name (st_local1 F1 (fun s2 F2 h2 => ?_) ha hp))
  refine wpAny_inOrder_cons (wpAny_assign_Name (st_local1 F2 (fun s3 F3 h3 => ?_) hb hp))
  exact wpAny_inOrder_nil (h _ s3 ⟨p, q, g, by simp [hab], by simp, fun y ya yb => by simp [ya, yb]⟩ F3 ((h1.trans h2).trans h3))
/-- a name and two within a pair -/
theorem bnd_pair3 {a b c : Str} {pa pb pc pos pos2 : Pos} {k k2 : Nat} {V : Value → Shared → Prop} {G : Value → Value → Value → Prop} (hh : A.handled = none) (hV : ∀ v s, V v s → ∃ T p T2 q r, v = .ref T ∧ G p q r ∧ s.heap.IsTuple T #[p, .ref T2] ∧ s.heap.IsTuple T2 #[q, r])
    (ha : env.kindOf a = some .local) (hb : env.kindOf b = some .local) (hc : env.kindOf c = some .local) (hp : (env.scope.kind == .class || (env.scope.kind == .module && env.locals != env.globals)) = false) (hab : a ≠ b := by decide) (hac : a ≠ c := by decide) (hbc : b ≠ c := by decide) :
    Bnd prog w A env (.Tuple [.Name a pa, .Tuple [.Name b pb, .Name c pc] k2 pos2] k pos) V (fun m m' => ∃ p q r, G p q r ∧ m' a = some p ∧ m' b = some q ∧ m' c = some r ∧ ∀ y, y ≠ a → y ≠ b → y ≠ c → m' y = m y) := by
  intro s v m cm Q hv F h
  obtain ⟨T, p, T2, q, r, rfl, g, ht, ht2⟩ := hV _ _ hv
  refine wpAny_assign_Tuple hh ht rfl rfl fun h' hx => ?_
  have h1 : Step (fun b => b = env.locals) s { s with heap := h' } := Step.of_extBut hx
  have F1 := F.step0 (Step.of_extBut hx)
  have t2l : T2 ≠ env.locals := by
    rintro rfl
    obtain ⟨o, e, c, n, d⟩ := ht2
    obtain ⟨o', es, ep, e', d', _⟩ := F.ns
    rw [e] at e'; cases e'
    rw [d] at d'; cases d'
  have ht2' := isTuple_step ht2 h1 t2l
  refine wpAny_inOrder_cons (wpAny_assign_Name (st_local1 F1 (fun s2 F2 h2 => ?_) ha hp))
  have ht2'' := isTuple_step ht2' h2 t2l
  refine wpAny_inOrder_cons (wpAny_assign_Tuple (x1 := k2) (pos := pos2) (elts := [.Name b pb, .Name c pc]) hh ht2'' rfl rfl fun h'' hx2 => ?_)
  have h3 : Step (fun b => b = env.locals) s2 { s2 with heap := h'' } := Step.of_extBut hx2
  have F3 := F2.step0 (Step.of_extBut hx2)
  refine wpAny_inOrder_cons (wpAny_assign_Name (st_local1 F3 (fun s4 F4 h4 => ?_) hb hp))
  refine wpAny_inOrder_cons (wpAny_assign_Name (st_local1 F4 (fun s5 F5 h5 => ?_) hc hp))
  exact wpAny_inOrder_nil (wpAny_inOrder_nil (h _ s5 ⟨p, q, r, g, by simp [hab, hac], by simp [hbc], by simp, fun y ya yb yc => by simp [ya, yb, yc]⟩ F5 ((((h1.trans h2).trans h3).trans h4).trans h5)))

/-! the sources of the text -/
theorem itr_range {x : Str} {px : Pos} {I : Addr} {a : Int} {n : Nat} (hh : A.handled = none) (h4 : 406 ≤ I) :
    Itr prog w A (.Name x px) I (fun b => b ∈ [I]) (fun b => b ∈ [I]) n (fun i v _ => ∃ t, v = .int (a + i * 1) t) (fun i s => IsRangeIter s.heap I (a + (i : Nat) * 1) ((n : Int) - (i : Nat)) 1) :=
  itr_of_walks (Walks.range hh I a 1 n) (fun i h st b hb => by
    rcases List.mem_singleton.mp hb with rfl
    exact Real.of st rfl) (by simpa using h4)
theorem itr_enum {elts : List Expr} {k : Nat} {pos : Pos} {e it l : Addr} {items : Array Value} (hh : A.handled = none) (hei : e ≠ it) (hle : l ≠ e) (hli : l ≠ it) (h4 : 406 ≤ e) (h4' : 406 ≤ it) :
    Itr prog w A (.Tuple elts k pos) e (fun b => b ∈ [e, it, l]) (fun b => b ∈ [e, it]) items.size (fun i v s => ∃ T vals, v = .ref T ∧ (∃ t x, items[i]? = some x ∧ vals = #[.int i t, x]) ∧ s.heap.IsTuple T vals)
      (fun i s => (∃ old, IsEnum s.heap e it i old) ∧ s.heap.IsListIter it l i ∧ s.heap.IsList l items) :=
  itr_of_walksT (WalksT.enumerate hh e it l hei hle hli items) (fun i h st b hb => by
    obtain ⟨⟨old, he⟩, ⟨o, e1, c1, d1⟩, ⟨o2, e2, c2, d2⟩⟩ := st
    simp only [List.mem_cons, List.not_mem_nil, or_false] at hb
    rcases hb with rfl | rfl | rfl
    · exact Real.of he rfl
    · exact Real.of e1 c1
    · exact Real.of e2 c2) (fun i T h hm b hb => by
    obtain ⟨⟨x, he⟩, ⟨o, e1, c1, d1⟩, _⟩ := hm
    simp only [List.mem_cons, List.not_mem_nil, or_false] at hb
    rcases hb with rfl | rfl
    · exact Real.of he rfl
    · exact Real.of e1 c1) (by simp; exact ⟨h4, h4'⟩)
theorem itr_zip {elts : List Expr} {k : Nat} {pos : Pos} {z TI TO i1 i2 l1 l2 : Addr} {xs ys : Array Value} (hh : A.handled = none) (D : ZipApart z TI TO i1 i2 l1 l2) (h4 : ∀ b ∈ [z, TO, i1, i2], 406 ≤ b) :
    Itr prog w A (.Tuple elts k pos) z (fun b => b ∈ [z, TI, TO, i1, i2, l1, l2]) (fun b => b ∈ [z, TO, i1, i2]) (min xs.size ys.size) (fun i v s => ∃ T vals, v = .ref T ∧ (∃ x y, xs[i]? = some x ∧ ys[i]? = some y ∧ vals = #[x, y]) ∧ s.heap.IsTuple T vals)
      (fun i s => IsZip s.heap z TI TO .none ∧ IsPair s.heap TI (.ref i1) (.ref i2) ∧ (∃ a b, IsPair s.heap TO a b) ∧ s.heap.IsListIter i1 l1 i ∧ s.heap.IsListIter i2 l2 i ∧ s.heap.IsList l1 xs ∧ s.heap.IsList l2 ys) :=
  itr_of_walksT (WalksT.zip2 hh z TI TO i1 i2 l1 l2 D xs ys) (fun i h st b hb => by
    obtain ⟨hz, hTI, ⟨a, b', hTO⟩, ⟨o1, e1, c1, d1⟩, ⟨o2, e2, c2, d2⟩, ⟨o3, e3, c3, d3⟩, ⟨o4, e4, c4, d4⟩⟩ := st
    simp only [List.mem_cons, List.not_mem_nil, or_false] at hb
    rcases hb with rfl | rfl | rfl | rfl | rfl | rfl | rfl
    · exact Real.of hz rfl
    · exact Real.of hTI rfl
    · exact Real.of hTO rfl
    · exact Real.of e1 c1
    · exact Real.of e2 c2
    · exact Real.of e3 c3
    · exact Real.of e4 c4) (fun i T h hm b hb => by
    obtain ⟨hz, hTI, ⟨a, b', hTO⟩, ⟨o1, e1, c1, d1⟩, ⟨o2, e2, c2, d2⟩, _⟩ := hm
    simp only [List.mem_cons, List.not_mem_nil, or_false] at hb
    rcases hb with rfl | rfl | rfl | rfl
    · exact Real.of hz rfl
    · exact Real.of hTO rfl
    · exact Real.of e1 c1
    · exact Real.of e2 c2) h4
end
end Mine
end
section
open PySem PySem.W PySem.W.X PyProof.Rows
namespace Mine
section
variable {prog : Program} {w : World} {A : Around} {s : Shared} {env : Env}
theorem comp_start1 {elt target iter target2 iter2 : Expr} {ifs ifs2 : List Expr} {scope : Scope} {pos : Pos} {I : Addr} {acc : Value} {R : Result → Shared → Prop}
    (h0 : codeAny (model prog w) A (.compLoop (.ListComp elt [⟨target, iter, ifs, 0⟩, ⟨target2, iter2, ifs2, 0⟩] scope pos) 1 (.ref I) acc env) R s)
    (h : wpAny (model prog w) A (pyIter (.ref I)) (fun it s' => it = .ref I ∧ s' = s) NoE s) :
    codeAny (model prog w) A (.compStart (.ListComp elt [⟨target, iter, ifs, 0⟩, ⟨target2, iter2, ifs2, 0⟩] scope pos) 1 (.ref I) acc env) R s := by
  refine codeAny_of_tree ?_
  show wpAny _ _ ((compStart (.ListComp elt [⟨target, iter, ifs, 0⟩, ⟨target2, iter2, ifs2, 0⟩] scope pos) 1 (.ref I) acc env).onRaise (fun x => do noteFrame x env; standAt theWindowsPlace)) _ _ s
  refine wpAny_notedAt ?_
  unfold compStart
  show wpAny _ _ (ask >>= _) _ _ s
  refine wpAny_bind (wpAny_askSetting (wpAny_ite ?_))
  split
  · first
      | exact wpAny_bind (wpAny_pure (wpAny_pure (And.intro rfl h0)))
      | exact wpAny_pure (And.intro rfl h0)
  · refine wpAny_bind (wpAny_rule ?_)
    show wpAny _ _ (standAt iter2.pos >>= _) _ _ s
    exact wpAny_bind (wpAny_standAt (wpAny_bind (noE (wpAny_mono h (fun it' s' h' => by
      obtain ⟨rfl, rfl⟩ := h'
      exact wpAny_pure (And.intro rfl h0)) fun _ _ x => x))))

/-- the inner loop's part of a turn -/
def Inner (prog : Program) (w : World) (A : Around) (env : Env) (elt target2 iter2 : Expr) (ifs2 : List Expr) (scope : Scope) (s₀ s₂ : Shared) (cm : Str → Option Value) (keep : Str → Bool) (Z : Addr → Prop) (C : Addr) (m' : Str → Option Value) (ys : List Value) (s' : Shared) (K : List Value → Shared → Prop) : Prop :=
  wpAny (model prog w) A (eval iter2 (cEnv scope env C)) (fun xv s₁ => wpAny (model prog w) A (pyIter xv) (fun it s₃ => ∃ I Dp Y n V, ∃ B : Nat → (Str → Option Value) → (Str → Option Value) → Prop, ∃ St, it = .ref I ∧ Step0 s' s₃ ∧ (∀ b, Y b → s'.heap.get? b = none) ∧ Itr prog w A target2 I Dp Y n V St ∧ St 0 s₃ ∧ (∀ b, Dp b → ¬ Z b) ∧
    (∀ i, Bnd prog w A (cEnv scope env C) target2 (V i) (B i)) ∧ (∀ i m m', B i m m' → ∀ y, keep y = true → m' y = m y) ∧
    ∃ J : Nat → List Value → Shared → Prop, (∀ i ys s, J i ys s → ys.length < 1000) ∧ J 0 ys s₃ ∧ (∀ i ys s s', J i ys s → Step (fun b => Z b ∨ Y b) s s' → J i ys s') ∧
      (∀ i ys m₂ s, i < n → J i ys s → (∃ mm, B i mm m₂) → (∀ y, keep y = true → m₂ y = m' y) → Run (cEnv scope env C) s₀ m₂ cm s → Step Z s₂ s → (∀ b, Z b → ∃ o, s.heap.get? b = some o) →
        wpAny (model prog w) A (testsOf ifs2 (cEnv scope env C)) (fun ok s'' => Step0 s s'' ∧ if ok = true then wpAny (model prog w) A (eval elt (cEnv scope env C)) (fun y s₄ => Step0 s'' s₄ ∧ J (i + 1) (ys ++ [y]) s₄) NoE s'' else J (i + 1) ys s'') NoE s) ∧
      (∀ ys s, J n ys s → K ys s)) NoE s₁) NoE s'
structure Built2 (prog : Program) (w : World) (A : Around) (env : Env) (elt target2 iter2 : Expr) (ifs2 : List Expr) (scope : Scope) (s₀ s₂ : Shared) (cm : Str → Option Value) (n : Nat) (B : Nat → (Str → Option Value) → (Str → Option Value) → Prop) (keep : Str → Bool) (Z : Addr → Prop)
    (J : Nat → List Value → Shared → Prop) : Prop where
  start : ∀ s', Step Z s₂ s' → J 0 [] s'
  stable : ∀ i ys s s', J i ys s → Step Z s s' → J i ys s'
  turn : ∀ i ys C mm m' s', i < n → J i ys s' → B i mm m' → Run (cEnv scope env C) s₀ m' cm s' → Z C → Step Z s₂ s' → (∀ b, Z b → ∃ o, s'.heap.get? b = some o) →
    Inner prog w A env elt target2 iter2 ifs2 scope s₀ s₂ cm keep Z C m' ys s' (J (i + 1))

theorem comp2_rule {elt target iter target2 iter2 : Expr} {ifs2 : List Expr} {scope : Scope} {pos : Pos} {s₀ : Shared} {m cm} {P : Params} {Q : Value → Shared → Prop} (X : (KP P).In s₀.heap) (F : Run env s₀ m cm s) (hh : A.handled = none)
    (h : wpAny (model prog w) A (eval iter env) (fun xv s₁ => wpAny (model prog w) A (pyIter xv) (fun it s₂ => ∃ I Dp Y n V B keep St, it = .ref I ∧ Step0 s s₂ ∧ (∀ b, Y b → s.heap.get? b = none) ∧ Itr prog w A target I Dp Y n V St ∧ St 0 s₂ ∧
      (∀ b, Dp b → ¬ Hot env b) ∧ (∀ i C, Bnd prog w A (cEnv scope env C) target (V i) (B i)) ∧
      ∀ Z, (∀ b, (∃ o, s₂.heap.get? b = some o) → ¬ Y b → ¬ Hot env b → ¬ Z b) → ∃ J, Built2 prog w A env elt target2 iter2 ifs2 scope s₀ s₂ cm n B keep Z J ∧
        ∀ D ys s', J n ys s' → IsL s' D ys → s.heap.get? D = none → Step0 s s' → Step Z s₂ s' → Q (.ref D) s') NoE s₁) NoE s)
    (hs2 : ∀ C x, foldedSetIterable iter2 (cEnv scope env C) x = pure x := by intro _ _; rfl)
    (hok : clOk scope.names env.cells = true := by kernel_rfl) (hcell : (scope.names.all fun x => !(x.2 == .cell)) = true := by kernel_rfl) (hkind : scope.kind = .function := by kernel_rfl)
    (hnames : (scope.names.all fun x => !(x.2 == .local) || scope.names.lookup x.1 == some .local) = true := by kernel_rfl) (hs : ∀ x, foldedSetIterable iter env x = pure x := by intro _; rfl) :
    wpAny (model prog w) A (eval (.ListComp elt [⟨target, iter, [], 0⟩, ⟨target2, iter2, ifs2, 0⟩] scope pos) env) Q NoE s := by
  rw [eval_ListComp]
  refine wpAny_comprehension_free (use := none) rfl hs (closure_eq hok) hkind (fun x hx e => by
    have := List.all_eq_true.mp hnames x hx
    rw [e] at this
    simpa using this) (wpAny_mono h (fun xv s₁ h₁ => wpAny_mono h₁ (fun it s₂ h₂ => ?_) fun _ _ e => e) fun _ _ e => e)
  obtain ⟨I, Dp, Y, n, V, B, keep, St, rfl, h02, yn, T, st0, cold, bd, hb⟩ := h₂
  have ynew : ∀ b, Y b → s₀.heap.get? b = none := fun b y => F.newAt (yn b y)
  replace F := F.step0 h02
  refine op_newList (by decide) (fun D s₃ h3 hD nD hs => ?_) (size_ge (F.K X))
  refine wpAny_newFunctionEnv (fun x hx e => by
    have := List.all_eq_true.mp hcell x hx
    rw [e] at this; cases this) (by intro x hx; cases hx) (fun h' hns hsb => ?_) hkind
  generalize hC : s₃.heap.objs.size = C at hns hsb
  have c4 : 406 ≤ C := by rw [← hC]; exact size_ge ((F.step0 h3).K X)
  have nC3 : s₃.heap.get? C = none := Heap.get?_none_of_le (by rw [hC]; exact Nat.le_refl _)
  have nC : s₂.heap.get? C = none := h3.notThere nC3
  obtain ⟨oD, eD⟩ := hD.some
  have dc : D ≠ C := fun e => by rw [e, nC3] at eD; cases eD
  have s34 : Step0 s₃ { s₃ with heap := h', toks := s₃.toks + ([] : List (Str × Value)).length } := by
    refine Step0.of_heap fun b o e => ?_
    have hb : b ≠ C := fun q => by rw [q, nC3] at e; cases e
    exact (hsb.2 b hb).trans (Heap.get?_push_of_some _ e)
  generalize hs4 : ({ s₃ with heap := h', toks := s₃.toks + ([] : List (Str × Value)).length } : Shared) = s₄ at s34
  have hns4 : s₄.heap.Ns C (fun x => ([] : List (Str × Value)).reverse.lookup x) := by rw [← hs4]; exact hns
  have F4 := (F.step0 h3).step0 s34
  have hD4 := hD.step0 s34
  have hCh : ¬ Hot env C := F.hotAt nC
  have hDh : ¬ Hot env D := F.hotAt nD
  have R4 : Run (cEnv scope env C) s₀ _ cm s₄ := cRun hcell F4 c4 (F.newAt nC) hCh hns4
  have yold : ∀ b, Y b → ∃ o, s₂.heap.get? b = some o := fun b y => T.there _ _ st0 b (T.sub b y)
  have dold : ∀ b, Dp b → b ≠ D ∧ b ≠ C := fun b d => by
    obtain ⟨o, e⟩ := T.there _ _ st0 b d
    exact ⟨fun q => (by rw [q, nD] at e; cases e), fun q => (by rw [q, nC] at e; cases e)⟩
  have cold' : ∀ b, Dp b → ¬ Hot (cEnv scope env C) b := fun b d => by
    rintro (rfl | ⟨n, hn⟩)
    · exact (dold _ d).2 rfl
    · exact cold b d (.inr ⟨n, cl_sub hcell hn⟩)
  let Z : Addr → Prop := fun b => b = D ∨ b = C ∨ Y b ∨ Hot env b
  have zD : Z D := .inl rfl
  have zC : Z C := .inr (.inl rfl)
  obtain ⟨J, BJ, fin⟩ := hb Z (by
    rintro b ⟨o, e⟩ ny nh (rfl | rfl | y | hh)
    · rw [nD] at e; cases e
    · rw [nC] at e; cases e
    · exact ny y
    · exact nh hh)
  have S : Src prog w A (cEnv scope env C) target I Dp Y n B St := Src.of T cold' (fun i => bd i C)
  have st4 : St 0 s₄ := T.stable (fun _ => False) 0 _ _ (T.stable (fun _ => False) 0 _ _ st0 h3 (fun _ q => q.elim)) s34 (fun _ q => q.elim)
  have zr : ∀ b, (b = D ∨ b = C ∨ Y b) → Z b := fun b h => h.elim .inl fun h => h.elim (fun h => .inr (.inl h)) fun h => .inr (.inr (.inl h))
  have dh : ¬ Hot (cEnv scope env C) D := by
    rintro (e | ⟨n, hn⟩)
    · exact dc e
    · exact hDh (.inr ⟨n, cl_sub hcell hn⟩)
  let RR : Result → Shared → Prop := compPost (model prog w) A NoE none Q (.ref D) C
  have loop : codeAny (model prog w) A (.compLoop (.ListComp elt [⟨target, iter, [], 0⟩, ⟨target2, iter2, ifs2, 0⟩] scope pos) 0 (.ref I) (.ref D) (cEnv scope env C)) RR s₄ := by
    refine comp_loopT (pos := iter.pos) (ifs := []) (tail := do
        let x ← eval iter2 (cEnv scope env C)
        standAt iter2.pos
        let x ← foldedSetIterable iter2 (cEnv scope env C) x
        let _ ← runOwn (.compStart (.ListComp elt [⟨target, iter, [], 0⟩, ⟨target2, iter2, ifs2, 0⟩] scope pos) 1 (← holding [x] (pyIter x)) (.ref D) (cEnv scope env C)) (cEnv scope env C)
        again (.compLoop (.ListComp elt [⟨target, iter, [], 0⟩, ⟨target2, iter2, ifs2, 0⟩] scope pos) 0 (.ref I) (.ref D) (cEnv scope env C))) rfl S
      (fun i s' => ∃ ys m', J i ys s' ∧ IsL s' D ys ∧ Run (cEnv scope env C) s₀ m' cm s' ∧ Step (fun b => b = D ∨ b = C ∨ Y b) s₂ s' ∧ ∀ b, Z b → ∃ o, s'.heap.get? b = some o) st4
      ⟨[], _, BJ.start _ ((h3.trans s34).up), hD4, R4, (h3.trans s34).up, ?_⟩ ?_ ?_
    · rintro b (rfl | rfl | y | hh)
      · exact hD4.some
      · obtain ⟨o, _, _, e, _⟩ := hns4; exact ⟨o, e⟩
      · obtain ⟨o, e⟩ := yold b y
        exact (h3.trans s34).there b o e (fun q => q)
      · cases e : s₂.heap.get? b with
        | some o => exact (h3.trans s34).there b o e (fun q => q)
        | none => exact absurd hh (F.hotAt e)
    · rintro i s₅ hi ⟨ys, m₅, j, hD5, R5, h5, ex⟩
      refine ⟨m₅, cm, R5.act, fun m' s₆ hb F6 h6 st6 => ?_⟩
      have h6' : Step (fun b => b = D ∨ b = C ∨ Y b) s₅ s₆ := h6.mono fun b e => e.elim (fun e => .inr (.inl e)) fun e => .inr (.inr e)
      have R6 : Run (cEnv scope env C) s₀ m' cm s₆ := ⟨F6, (Step.trans F.since.up (h5.trans h6')).new (fun b hb _ => by
        rcases hb with rfl | rfl | y
        · exact F.newAt nD
        · exact F.newAt nC
        · exact ynew _ y), R5.new⟩
      have j6 := BJ.stable _ _ _ _ j (h6'.mono zr)
      have ex6 : ∀ b, Z b → ∃ o, s₆.heap.get? b = some o := fun b z => by
        by_cases hx : b = (cEnv scope env C).locals ∨ Y b
        · rcases hx with rfl | y
          · obtain ⟨o, _, _, e, _⟩ := F6.ns; exact ⟨o, e⟩
          · exact T.there _ _ st6 b (T.sub b y)
        · obtain ⟨o, e⟩ := ex b z
          exact h6.there b o e hx
      have hD6 : IsL s₆ D ys := hD5.step h6 (fun q => q.elim (fun e => dc e) fun y => (dold D (T.sub D y)).1 rfl)
      have h26 := h5.trans h6'
      refine wpAny_tests_nil ?_
      simp only [if_true]
      have go := BJ.turn i ys C m₅ m' s₆ hi j6 hb R6 zC (h26.mono zr) ex6
      unfold Inner at go
      refine wpAny_bind (wpAny_mono go (fun xv s₇ h₇ => wpAny_bind (wpAny_standAt (wpAny_bind (wpAny_of_eq (hs2 C xv) (wpAny_bind (wpAny_holding (wpAny_mono h₇ (fun it s₈ h₈ => ?_) fun _ _ q => q))))))) fun _ _ q => q)
      obtain ⟨I2, Dp2, Y2, n2, V2, B2, St2, rfl, h68, y2n, T2, st2, cold2, bd2, kp2, J2, sz2, j20, stb2, turn2, fin2⟩ := h₈
      have R8 := R6.step0 h68
      have hD8 := hD6.step0 h68
      have ex8 : ∀ b, Z b → ∃ o, s₈.heap.get? b = some o := fun b z => let ⟨o, e⟩ := ex6 b z; h68.there b o e (fun q => q)
      have y2old : ∀ b, Y2 b → ∃ o, s₈.heap.get? b = some o := fun b y => T2.there _ _ st2 b (T2.sub b y)
      have S2 : Src prog w A (cEnv scope env C) target2 I2 Dp2 Y2 n2 B2 St2 := Src.of T2 (fun b d => by
        rintro (e | ⟨n, hn⟩)
        · exact cold2 b d (.inr (.inl e))
        · exact cold2 b d (.inr (.inr (.inr (.inr ⟨n, cl_sub hcell hn⟩))))) bd2
      have dy2 : ∀ b, Dp b → ¬ Y2 b := fun b d y => by
        obtain ⟨o, e⟩ := T.there _ _ st6 b d
        rw [y2n b y] at e; cases e
      have d2 : ¬ Y2 D := fun y => by
        obtain ⟨o, e⟩ := hD6.some
        rw [y2n D y] at e; cases e
      have after2 : ∀ s t, Step (fun b => b = D ∨ b = C ∨ Y b) s₂ s → Step (fun b => b = D ∨ b = C ∨ Y2 b) s t → Step (fun b => b = D ∨ b = C ∨ Y b) s₂ t := fun s t h h' => by
        refine (Step.trans (X := fun b => (b = D ∨ b = C ∨ Y b) ∨ Y2 b) (h.mono fun b e => .inl e) (h'.mono fun b e => e.elim (fun e => .inl (.inl e)) fun e => e.elim (fun e => .inl (.inr (.inl e))) .inr)).new fun b hb nb => ?_
        rcases hb with hb | y
        · exact absurd hb nb
        · cases e : s₂.heap.get? b with
          | none => rfl
          | some o =>
            obtain ⟨o', e'⟩ := h26.there b o e nb
            rw [y2n b y] at e'; cases e'
      refine wpAny_bind (wpAny_runOwn ?_)
      show codeAny (model prog w) A (.compStart (.ListComp elt [⟨target, iter, [], 0⟩, ⟨target2, iter2, ifs2, 0⟩] scope pos) 1 (.ref I2) (.ref D) (cEnv scope env C)) _ s₈
      refine comp_start1 ?_ (T2.self s₈ _ st2 ⟨rfl, rfl⟩)
      have st68 : St (i + 1) s₈ := T.stable _ _ _ _ st6 h68 (fun _ q => q.elim)
      refine comp_loop (pos := iter2.pos) (inner := do let _ ← call (.builtin "list.append") [.ref D, ← eval elt (cEnv scope env C)]) rfl S2
        (fun j s' => ∃ ys m'', J2 j ys s' ∧ IsL s' D ys ∧ Run (cEnv scope env C) s₀ m'' cm s' ∧ (∀ y, keep y = true → m'' y = m' y) ∧ Step (fun b => b = D ∨ b = C ∨ Y2 b) s₈ s' ∧ Step (fun b => b = D ∨ b = C ∨ Y b) s₂ s' ∧ (∀ b, Z b → ∃ o, s'.heap.get? b = some o) ∧ St (i + 1) s') st2
        ⟨ys, m', j20, hD8, R8, fun _ _ => rfl, Step.refl _ _, h26.trans h68.up, ex8, st68⟩ ?_ ?_
      · rintro jj s₉ hj ⟨zs, m₉, j9, hD9, R9, kp9, h89, h29, ex9, st9⟩
        refine ⟨m₉, cm, R9.act, fun m₁ s₁₀ hb2 F10 h10 st10 => ?_⟩
        have h10' : Step (fun b => b = D ∨ b = C ∨ Y2 b) s₉ s₁₀ := h10.mono fun b e => .inr e
        have R10 : Run (cEnv scope env C) s₀ m₁ cm s₁₀ := ⟨F10, (Step.trans R9.since.up h10).new (fun b hb _ => hb.elim (fun e => e ▸ F.newAt nC) fun y => R6.newAt (y2n _ y)), R9.new⟩
        have zy2 : ∀ b, (b = D ∨ b = C ∨ Y2 b) → (Z b ∨ Y2 b) := fun b e => e.elim (fun e => .inl (.inl e)) fun e => e.elim (fun e => .inl (.inr (.inl e))) .inr
        have j10 := stb2 _ _ _ _ j9 (h10'.mono zy2)
        have kp10 : ∀ y, keep y = true → m₁ y = m' y := fun y ky => (kp2 _ _ _ hb2 y ky).trans (kp9 y ky)
        have h2_10 := after2 _ _ h29 h10'
        have h8_10 := h89.trans h10'
        have ex10 : ∀ b, Z b → ∃ o, s₁₀.heap.get? b = some o := fun b z => by
          by_cases hx : b = (cEnv scope env C).locals ∨ Y2 b
          · rcases hx with rfl | y
            · obtain ⟨o, _, _, e, _⟩ := F10.ns; exact ⟨o, e⟩
            · exact T2.there _ _ st10 b (T2.sub b y)
          · obtain ⟨o, e⟩ := ex9 b z
            exact h10.there b o e hx
        have stO : St (i + 1) s₁₀ := T.stable _ _ _ _ st9 h10 (fun b hb d => hb.elim (fun e => (dold b d).2 e) fun y => dy2 b d y)
        have hD10 : IsL s₁₀ D zs := hD9.step h10 (fun q => q.elim (fun e => dc e) d2)
        refine wpAny_mono (turn2 jj zs m₁ s₁₀ hj j10 ⟨m₉, hb2⟩ kp10 R10 (h2_10.mono zr) ex10) (fun ok s₁₁ h₁₁ => ?_) fun _ _ q => q
        obtain ⟨h11, h₁₁⟩ := h₁₁
        cases ok with
        | false =>
          simp only [Bool.false_eq_true, if_false] at h₁₁ ⊢
          exact ⟨⟨zs, m₁, h₁₁, hD10.step0 h11, R10.step0 h11, kp10, h8_10.trans h11.up, h2_10.trans h11.up, fun b z => let ⟨o, e⟩ := ex10 b z; h11.there b o e (fun q => q), T.stable _ _ _ _ stO h11 (fun _ q => q.elim)⟩, T2.stable _ _ _ _ st10 h11 (fun _ q => q.elim)⟩
        | true =>
          simp only [if_true] at h₁₁ ⊢
          refine wpAny_bind (wpAny_mono h₁₁ (fun y s₁₂ h₁₂ => wpAny_bind ?_) fun _ _ q => q)
          obtain ⟨h12, j12⟩ := h₁₂
          have h1112 := h11.trans h12
          have hD12 := hD10.step0 h1112
          have R12 := R10.step0 h1112
          refine op_append hD12 (Nat.le_of_lt (sz2 _ _ _ j10)) (fun s₁₃ hD13 h13 => wpAny_pure ?_)
          have h13' : Step (fun b => b = D ∨ b = C ∨ Y2 b) s₁₂ s₁₃ := h13.mono fun b e => .inl e
          refine ⟨⟨zs ++ [y], m₁, stb2 _ _ _ _ j12 (h13'.mono zy2), hD13, R12.stepX h13 (fun b e => e ▸ dh) (fun b e => e ▸ F.newAt nD), kp10, (h8_10.trans h1112.up).trans h13', (h2_10.trans h1112.up).trans (h13.mono fun b e => .inl e), fun b z => ?_, ?_⟩, ?_⟩
          · by_cases hx : b = D
            · exact hx ▸ hD13.some
            · obtain ⟨o, e⟩ := ex10 b z
              obtain ⟨o', e'⟩ := h1112.there b o e (fun q => q)
              exact h13.there b o' e' hx
          · exact T.stable _ _ _ _ (T.stable _ _ _ _ stO h1112 (fun _ q => q.elim)) h13 (fun b e d => (dold b d).1 e)
          · exact T2.stable _ _ _ _ (T2.stable _ _ _ _ st10 h1112 (fun _ q => q.elim)) h13 (fun b e d => cold2 b d (e ▸ zD))
      · rintro s₉ s₁₀ ⟨zs, m₉, j9, hD9, R9, kp9, h89, h29, ex9, st9⟩ h10
        have h10' : Step (fun b => b = D ∨ b = C ∨ Y2 b) s₉ s₁₀ := h10.mono fun b e => .inr (.inr e)
        have zy2 : ∀ b, (b = D ∨ b = C ∨ Y2 b) → (Z b ∨ Y2 b) := fun b e => e.elim (fun e => .inl (.inl e)) fun e => e.elim (fun e => .inl (.inr (.inl e))) .inr
        refine wpAny_pure ⟨rfl, ⟨zs, m₉, fin2 _ _ (stb2 _ _ _ _ j9 (h10'.mono zy2)), hD9.step h10 d2, R9.stepX h10 ?_ (fun b y => R6.newAt (y2n _ y)), after2 _ _ h29 h10', fun b z => ?_⟩, T.stable _ _ _ _ st9 h10 (fun b y d => dy2 b d y)⟩
        · rintro b y (e | ⟨n, hn⟩)
          · exact cold2 b (T2.sub b y) (.inr (.inl e))
          · exact cold2 b (T2.sub b y) (.inr (.inr (.inr (.inr ⟨n, cl_sub hcell hn⟩))))
        · obtain ⟨o, e⟩ := ex9 b z
          exact h10.there b o e fun y => cold2 b (T2.sub b y) z
    · rintro s₅ s₆ ⟨ys, m₅, j, hD5, R5, h5, ex⟩ h6
      have h6' : Step (fun b => b = D ∨ b = C ∨ Y b) s₅ s₆ := h6.mono fun b e => .inr (.inr e)
      have hns' := Ns.stepX R5.act.ns h6 fun y => (dold C (T.sub C y)).2 rfl
      refine ⟨m₅, hns', fun h'' hs'' => ?_⟩
      have s1 : Step (fun b => b = C) s₆ { s₆ with heap := h'' } := SameBut.step hns' hs''
      have s2 : Step (fun b => b = D ∨ b = C ∨ Y b) s₂ { s₆ with heap := h'' } := (h5.trans h6').trans (s1.mono fun b e => .inr (.inl e))
      refine fin D ys _ (BJ.stable _ _ _ _ (BJ.stable _ _ _ _ j (h6'.mono zr)) (s1.mono fun b e => e ▸ zC)) ((hD5.step h6 fun y => (dold D (T.sub D y)).1 rfl).step s1 dc) (h02.notThere nD) ((Step.trans h02.up s2).new fun b hb _ => ?_) (s2.mono zr)
      rcases hb with rfl | rfl | y
      · exact h02.notThere nD
      · exact h02.notThere nC
      · exact yn _ y
  show codeAny (model prog w) A (.compStart (.ListComp elt [⟨target, iter, [], 0⟩, ⟨target2, iter2, ifs2, 0⟩] scope pos) 0 (.ref I) (.ref D) (cEnv scope env C)) RR s₄
  exact codeAny_compStart_list loop (noE (T.self s₄ _ st4 loop))
end
end Mine
end
section
open PySem PySem.W PySem.W.X PyProof.Rows
namespace Mine

/-! inner defs -/
def hdOk (vs : Array Value) (P : Addr) : Bool := (vs[11]? == some (.ref P)) && (vs.getD 11 .none == .ref P) && (match vs.getD 18 .none with | .str .. => true | _ => false) && (match vs.getD 7 .none with | .int .. => true | _ => false) &&
  (match vs.getD 9 .none with | .bool .. => true | _ => false) && (match vs.getD 10 .none with | .int .. => true | _ => false)
theorem hd_of {h : Heap} {c P : Addr} {o : Obj} {vs : Array Value} (e : h.get? c = some o) (cl : o.cls = .type "code") (d : o.data = .fields vs) (k : hdOk vs P = true) (n : c ≠ P) : CodeHd h c P := by
  unfold hdOk at k
  simp only [Bool.and_eq_true, beq_iff_eq] at k
  obtain ⟨⟨⟨⟨⟨k1, k2⟩, k3⟩, k4⟩, k5⟩, k6⟩ := k
  split at k3 <;> rename_i e3 <;> simp only [Bool.false_eq_true] at k3
  split at k4 <;> rename_i e4 <;> simp only [Bool.false_eq_true] at k4
  split at k5 <;> rename_i e5 <;> simp only [Bool.false_eq_true] at k5
  split at k6 <;> rename_i e6 <;> simp only [Bool.false_eq_true] at k6
  exact ⟨o, vs, _, _, _, _, _, _, _, e, cl, d, k1, k2, e3, e4, e5, e6, n⟩
theorem codeAmong_app (pos pos' : Pos) (c : Value) : ∀ (l : List Value), TriplesOk l → ∀ cv, codeAmong pos' (l ++ [rawInt pos.line, rawInt pos.col, c]) = some cv →
    codeAmong pos' l = some cv ∨ (cv = c ∧ pos.line = pos'.line ∧ pos.col = pos'.col) := by
  intro l h
  fun_induction TriplesOk l with
  | case1 =>
    intro cv hc
    simp only [List.nil_append, codeAmong, rawInt] at hc
    split at hc
    · rename_i q
      simp only [Bool.and_eq_true, beq_iff_eq] at q
      cases hc
      exact .inr ⟨rfl, by exact_mod_cast q.1, by exact_mod_cast q.2⟩
    · cases hc
  | case2 a t b u x rest ih =>
    intro cv hc
    simp only [List.cons_append, codeAmong] at hc ⊢
    split at hc
    · rename_i q
      rw [if_pos q]
      exact .inl hc
    · rename_i q
      rw [if_neg q]
      exact ih h cv hc
  | case3 => exact h.elim
theorem codeAmong_pos (pos : Pos) : ∀ l, codeAmong ⟨pos.line, pos.col, 0, 0⟩ l = codeAmong pos l := by
  intro l
  fun_induction codeAmong pos l with
  | case1 a t b u c rest h => conv => lhs; unfold codeAmong
                              rw [if_pos h]
  | case2 a t b u c rest h ih => conv => lhs; unfold codeAmong
                                 rw [if_neg h]; exact ih
  | case3 l h =>
    conv => lhs; unfold codeAmong
    split
    · rename_i a t b u c rest; exact absurd rfl (h a t b u c rest)
    · rfl

def fdOf (name qual : Str) (params : Arguments) (body : FuncBody) (scope : Scope) (cl : List (Str × Addr)) (nm cv ct : Value) : FuncData :=
  { name, qualname := qual, params, body, scope, globals := mainGlobals, closure := cl, defaults := .none, kwdefaults := .none, doc := .none, pyModule := nm, annotations := none, code := cv, closureTuple := ct, builtins := builtinsNs }
section
variable {prog : Program} {w : World} {A : Around} {s : Shared} {env : Env}
theorem CodeHd_step0 {s s' : Shared} {c P : Addr} (x : CodeHd s.heap c P) (h : Step0 s s') : CodeHd s'.heap c P :=
  let ⟨o, vs, file, tf, flags, tg, inF, text, tt, e, cl, r⟩ := x; ⟨o, vs, file, tf, flags, tg, inF, text, tt, h.at e (by unfold isTab; rw [cl]), cl, r⟩
noncomputable def nameV (P : Params) : Option Value := (nsIn (KP P) mainGlobals "__name__").getD none
theorem op_code {p : Spot} {c : Addr} {pos : Pos} {firstLine : Nat} {name : Str} {params : Arguments} {scope : Scope} {body : FuncBody} {Q : Value → Shared → Prop} (TB : TabsOk s.heap) (hp : p ∈ spots) (hl : pos.line = p.line) (hc : pos.col = p.col)
    (uniq : ∀ q ∈ spots, q.tab = p.tab → q.line = p.line → q.col = p.col → q.qual = p.qual) (C : CodeHd s.heap c p.tab) (hcode : env.code = .ref c)
    (h : ∀ cv s', Step0 s s' → CodeAt s'.heap cv p.qual → Q cv s') :
    wpAny (model prog w) A (functionCode env pos firstLine name p.qual params scope body) Q NoE s := by
  obtain ⟨ps, hP, ht, hcv⟩ := TB p hp
  have epos : codeAmong p.pos ps.toList = codeAmong pos ps.toList := by
    unfold Spot.pos
    rw [← hl, ← hc]
    exact codeAmong_pos pos _
  rw [epos] at hcv
  cases hf : codeAmong pos ps.toList with
  | some cv => exact wpAny_functionCode_hit hcode (C.code hP ht) hf (h cv s (Step.refl _ _) (hcv cv hf))
  | none =>
    refine wpAny_functionCodeX hcode (C.code hP ht) (C.tab hP) hf fun c' h' tk hx hge hlt _ hrec htb hnew => ?_
    have hP' := htb.2
    obtain ⟨P', _, _, ⟨oc, vs, e1, e2, e3, e4⟩, _⟩ := hnew
    have hcat : CodeAt h' (.ref c') p.qual := by
      obtain ⟨c₂, oc', vs', t, q1, q2, q3, q4⟩ := hrec
      cases q1
      exact ⟨c', oc', vs', t, rfl, q2, by rw [e1] at q2; cases q2; exact e2, q3, q4⟩
    refine h _ _ ⟨fun b o e n _ => hx b o (fun q => ?_) e, fun b o e _ => ?_, fun b o e nt _ => hx b o (fun q => nt ⟨p, hp, q.symm⟩) e, rfl, GensOk.refl _, fun tb q hq => ?_⟩ hcat
    · rw [q, hP] at e; cases e; cases n
    · by_cases q : b = p.tab
      · exact ⟨_, q ▸ hP'⟩
      · exact ⟨o, hx b o q e⟩
    · obtain ⟨qs, eq, tq, cq⟩ := tb q hq
      have keepCode : ∀ {cv r}, CodeAt s.heap cv r → CodeAt h' cv r := fun ⟨c, oc, vs, t, e, g, cl, d, v⟩ => ⟨c, oc, vs, t, e, hx _ _ (fun z => by
        rw [z, hP] at g; cases g; cases cl) g, cl, d, v⟩
      by_cases hqt : q.tab = p.tab
      · rw [hqt, hP] at eq
        cases eq
        refine ⟨_, hqt ▸ hP', by simpa using TriplesOk_snoc _ _ _ _ ht, fun cv hcv' => ?_⟩
        rw [Array.toList_append] at hcv'
        rcases codeAmong_app pos q.pos (.ref c') _ ht cv hcv' with old | ⟨rfl, a, b⟩
        · exact keepCode (cq cv old)
        · rw [uniq q hq hqt (a.symm.trans hl) (b.symm.trans hc)]
          exact hcat
      · exact ⟨qs, hx _ _ hqt eq, tq, fun cv hcv' => keepCode (cq cv hcv')⟩

theorem mk_fn {p : Spot} {c : Addr} {pos : Pos} {firstLine : Nat} {name : Str} {params : Arguments} {scope : Scope} {body : FuncBody} {Q : Value → Shared → Prop} (X : (KP w.params).In s.heap) (TB : TabsOk s.heap) (hp : p ∈ spots) (hl : pos.line = p.line) (hc : pos.col = p.col)
    (uniq : ∀ q ∈ spots, q.tab = p.tab → q.line = p.line → q.col = p.col → q.qual = p.qual) (C : CodeHd s.heap c p.tab) (hcode : env.code = .ref c) (hok : clOk scope.names env.cells = true) (hg : env.globals = mainGlobals) (hb : env.builtins = builtinsNs)
    (hdoc : (match body with | .stmts b => docOf b | .expr _ => none) = none)
    (h : ∀ f cv ct nm s', Step0 s s' → CodeAt s'.heap cv p.qual → s'.heap.get? f = some ⟨.type "function", none, .func (fdOf name p.qual params body scope (clOf scope env) nm cv ct), #[]⟩ → s.heap.get? f = none → Q (.ref f) s') :
    wpAny (model prog w) A (makeFunction name p.qual params body scope env [] [] [] pos firstLine) Q NoE s := by
  rw [makeFunction_eq]
  simp only [List.zip_nil_right, List.filterMap_nil, List.isEmpty_nil, if_true, pure_bind]
  unfold makeTail
  rw [closure_eq hok, hg, hb]
  refine wpAny_bind (wpAny_pure ?_)
  have fin : ∀ (ct : Value) (s₁ : Shared) (K : Value → Addr → Option Value → Sem Value), Step0 s s₁ → (∀ cd, K cd builtinsNs (nameV w.params) = newObj (.type "function") (.func (fdOf name p.qual params body scope (clOf scope env) ((nameV w.params).getD .none) cd ct))) →
      wpAny (model prog w) A (functionCode env pos firstLine name p.qual params scope body >>= fun cd => builtinsFor mainGlobals builtinsNs >>= fun bs => nsGet mainGlobals "__name__" >>= fun nm => K cd bs nm) Q NoE s₁ := by
    intro ct s₁ K h1 hK
    refine wpAny_bind (op_code (h1.tab TB) hp hl hc uniq (CodeHd_step0 C h1) hcode fun cv s₂ h2 hcat => ?_)
    have X2 := KP.step0 (KP.step0 X h1) h2
    refine wpAny_bind ((Looks.of_peek (M := model prog w) X2 (show peek (KP w.params) ⟨prog, w.params⟩ (builtinsFor mainGlobals builtinsNs) = some builtinsNs by kernel_rfl)).here ?_)
    refine wpAny_bind (nsGet_K X2 (r := nameV w.params) (by kernel_rfl) ?_)
    rw [hK]
    exact wpAny_newObj_type (h _ cv ct _ _ ((h1.trans h2).trans (Step0.push _ _)) (hcat.keep fun b o e _ => Heap.get?_push_of_some _ e) (Heap.get?_push_size _ rfl) (Step0.notThere (h1.trans h2) (Heap.get?_none_of_le (Nat.le_refl _)))) (by size_fits)
  by_cases hcl : (clOf scope env).isEmpty = true
  · rw [hcl]
    simp only [if_true]
    exact wpAny_bind (wpAny_pure (fin .none s _ (Step.refl _ _) fun cd => by
      cases body with
      | stmts b =>
        simp only at hdoc
        simp only [hdoc]
        rfl
      | expr _ => rfl))
  · have : (clOf scope env).isEmpty = false := by simpa using hcl
    rw [this]
    simp only [Bool.false_eq_true, if_false]
    exact wpAny_bind (wpAny_newTextTuple (fin _ _ _ (Step0.push _ _) fun cd => by
      cases body with
      | stmts b =>
        simp only at hdoc
        simp only [hdoc]
        rfl
      | expr _ => rfl))
end
end Mine
end
section
open PySem PySem.W PySem.W.X PyProof.Rows
namespace Mine
section
variable {prog : Program} {w : World} {A : Around} {s : Shared} {env : Env}
theorem def_rule0 {name bind : Str} {args : Arguments} {body : List Stmt} {scope : Scope} {tscope : Option Scope} {pos : Pos} {named : Env → List (Str × Sem Value)} {marked : Stmt} {Q : Flow → Shared → Prop} (hn : named env = [])
    (h : wpAny (model prog w) A (makeFunction name (qualnameIn env name bind) args (.stmts body) scope env [] [] [] pos pos.line) (fun f s' => wpAny (model prog w) A (storeName env bind f) (fun _ s'' => Q .next s'') NoE s') NoE s) :
    wpAny (model prog w) A (defStmt name bind args body scope pos env [] tscope [] [] ([], []) named marked) Q NoE s := by
  unfold defStmt
  simp only [List.isEmpty_nil, Bool.not_true, Bool.false_and, Bool.false_eq_true, if_false, hn]
  refine wpAny_bind (wpAny_pure ?_)
  refine wpAny_bind (wpAny_standAt (wpAny_bind (wpAny_holding ?_)))
  refine wpAny_bind (wpAny_pure ?_)
  refine wpAny_bind (wpAny_holding (wpAny_pure (wpAny_holding ?_)))
  refine wpAny_bind (wpAny_pure ?_)
  refine wpAny_mono h (fun f s' q => ?_) fun _ _ q => q
  refine wpAny_bind (wpAny_pure (wpAny_bind (wpAny_standAt (wpAny_bind ?_))))
  unfold bindName
  refine wpAny_bind (wpAny_holding (wpAny_point (wpAny_bind (wpAny_mono q (fun _ s'' q => wpAny_point (wpAny_pure q)) fun _ _ q => q))))
theorem def_rule {name bind : Str} {args : Arguments} {body : List Stmt} {scope : Scope} {tscope : Option Scope} {pos : Pos} {Q : Flow → Shared → Prop} (hd : defaultsOf args env = ([], []))
    (hn : (match args with | ⟨po, a, va, ko, _, kwa, _⟩ => annotationsOf (a ++ po ++ va.toList ++ ko ++ kwa.toList) env) = [])
    (h : wpAny (model prog w) A (makeFunction name (qualnameIn env name bind) args (.stmts body) scope env [] [] [] pos pos.line) (fun f s' => wpAny (model prog w) A (storeName env bind f) (fun _ s'' => Q .next s'') NoE s') NoE s) :
    wpAny (model prog w) A (exec (.FunctionDef name args body [] none [] scope tscope bind pos) env) Q NoE s := by
  rw [arm_exec_FunctionDef, hd]
  exact def_rule0 (by rw [show ((evalOpt none env).map ((("return" : Str), ·))).toList = [] from rfl, List.append_nil]; exact hn) h
theorem lam_rule {args : Arguments} {body : Expr} {scope : Scope} {pos : Pos} {Q : Value → Shared → Prop} (hd : defaultsOf args env = ([], []))
    (h : wpAny (model prog w) A (makeFunction "<lambda>" (env.qual ++ "<lambda>") args (.expr body) scope env [] [] [] pos pos.line) Q NoE s) :
    wpAny (model prog w) A (eval (.Lambda args body scope pos) env) Q NoE s := by
  rw [arm_eval_Lambda, hd]
  exact wpAny_bind (wpAny_pure (wpAny_bind (wpAny_holding (wpAny_pure h))))
end
end Mine
end
section
open PySem PySem.W PySem.W.X PyProof.Rows
namespace Mine
theorem CodeAt.rec' {h : Heap} {cv q} (x : CodeAt h cv q) : h.CodeRec cv q := let ⟨c, oc, vs, t, e, g, _, d, v⟩ := x; ⟨c, oc, vs, t, e, g, d, v⟩
theorem lookup_all {names : List (Str × NameKind)} {q : NameKind → Bool} (hc : (names.all fun x => q x.2) = true) {n : Str} {k : NameKind} (h : names.lookup n = some k) : q k = true :=
  List.all_eq_true.mp hc _ (PySem.mem_of_lookup h)
section
variable {prog : Program} {w : World} {A : Around} {s : Shared}
/-- the frame of an inner def -/
abbrev iEnv (fd : FuncData) (a L : Addr) : Env := newEnv fd.scope L mainGlobals fd.closure (fd.qualname ++ ".<locals>.") (some a) fd.code none builtinsNs
theorem inner_env {fd : FuncData} {a : Addr} {binds : List (Str × Value)} {P : Params} (X : (KP P).In s.heap) (hgl : fd.globals = mainGlobals) (hbi : fd.builtins = builtinsNs) (hk : fd.scope.kind = .function)
    (nocell : (fd.scope.names.all fun x => !(x.2 == .cell)) = true) (hlocal : ∀ x ∈ binds, fd.scope.names.lookup x.1 = some .local) {E : Value → Shared → Prop} {Q : Env → Shared → Prop}
    (h : ∀ L, 406 ≤ L → s.heap.get? L = none → ∀ s', Run (iEnv fd a L) s (fun x => binds.reverse.lookup x) (fun _ => none) s' → Q (iEnv fd a L) s') :
    wpAny (model prog w) A (newFunctionEnv fd.scope fd.globals fd.closure binds (fd.qualname ++ ".<locals>.") (some a) fd.code none fd.builtins) Q E s := by
  have nc : ∀ x ∈ fd.scope.names, x.2 ≠ .cell := fun x hx e => by
    have := List.all_eq_true.mp nocell x hx
    rw [e] at this; cases this
  refine wpAny_newFunctionEnv nc hlocal (fun h' hns hsb => ?_) hk
  rw [hgl, hbi]
  have nL : s.heap.get? s.heap.objs.size = none := Heap.get?_none_of_le (Nat.le_refl _)
  have nocel : ∀ n c, ¬ Cel (iEnv fd a s.heap.objs.size) n c := fun n c q => by
    have := lookup_all (q := fun k => !(k == .cell)) nocell q.2
    cases this
  refine h s.heap.objs.size (size_ge X) nL _ ⟨⟨hns, fun n c q => absurd q (nocel n c), fun n n' c q => absurd q (nocel n c), fun n c q => absurd q (nocel n c), fun b hb => hb.elim (fun e => e ▸ size_ge X) fun ⟨n, q⟩ => absurd q (nocel n b)⟩, Step0.of_heap fun b o e => ?_, fun b hb => hb.elim (fun e => e ▸ nL) fun ⟨n, q⟩ => absurd q (nocel n b)⟩
  have hb : b ≠ s.heap.objs.size := fun q => by rw [q, nL] at e; cases e
  exact (hsb.2 b hb).trans (Heap.get?_push_of_some _ e)
theorem call_innerS {a : Addr} {fd : FuncData} {args : Args} {binds : List (Str × Value)} {body : List Stmt} {Q : Value → Shared → Prop} (X : (KP w.params).In s.heap) (hroom : A.depth < recursionLimit)
    (ho : s.heap.get? a = some ⟨.type "function", none, .func fd, #[]⟩) (hcat : CodeAt s.heap fd.code fd.qualname) (hbind : peek (KP w.params) ⟨prog, w.params⟩ (bindArgs fd args) = some binds)
    (hlocal : ∀ x ∈ binds, fd.scope.names.lookup x.1 = some .local)
    (h : ∀ L, 406 ≤ L → s.heap.get? L = none → ∀ s', Run (iEnv fd a L) s (fun x => binds.reverse.lookup x) (fun _ => none) s' →
      wpAny (model prog w) (A.deeper (iEnv fd a L)) (execs body (iEnv fd a L)) (fun f s' => Q (match f with | .ret v => v | _ => .none) s') NoE s')
    (hbody : fd.body = .stmts body := by rfl) (hgl : fd.globals = mainGlobals := by rfl) (hbi : fd.builtins = builtinsNs := by rfl) (hco : fd.scope.isCoroutine = false := by kernel_rfl) (hgen : fd.scope.isGenerator = false := by kernel_rfl) (hk : fd.scope.kind = .function := by kernel_rfl)
    (nocell : (fd.scope.names.all fun x => !(x.2 == .cell)) = true := by kernel_rfl) :
    wpAny (model prog w) A (call (.ref a) args.pos args.kw) Q NoE s := by
  refine wpAny_call (codeAny_call_function hroom ho rfl hco hgen hbody hcat.rec' ?_)
  refine (Looks.of_peek (M := model prog w) X hbind).here ?_
  refine inner_env X hgl hbi hk nocell hlocal fun L hL nL s' F => ?_
  exact ⟨noLimit (F.K X), codeAny_func (wpAny_mono (h L hL nL s' F) (fun f s'' q => q) fun _ _ q => q.elim)⟩
theorem call_innerE {a : Addr} {fd : FuncData} {args : Args} {binds : List (Str × Value)} {body : Expr} {Q : Value → Shared → Prop} (X : (KP w.params).In s.heap) (hroom : A.depth < recursionLimit)
    (ho : s.heap.get? a = some ⟨.type "function", none, .func fd, #[]⟩) (hcat : CodeAt s.heap fd.code fd.qualname) (hbind : peek (KP w.params) ⟨prog, w.params⟩ (bindArgs fd args) = some binds)
    (hlocal : ∀ x ∈ binds, fd.scope.names.lookup x.1 = some .local)
    (h : ∀ L, 406 ≤ L → s.heap.get? L = none → ∀ s', Run (iEnv fd a L) s (fun x => binds.reverse.lookup x) (fun _ => none) s' →
      wpAny (model prog w) (A.deeper (iEnv fd a L)) (eval body (iEnv fd a L)) Q NoE s')
    (hbody : fd.body = .expr body := by rfl) (hgl : fd.globals = mainGlobals := by rfl) (hbi : fd.builtins = builtinsNs := by rfl) (hco : fd.scope.isCoroutine = false := by kernel_rfl) (hgen : fd.scope.isGenerator = false := by kernel_rfl) (hk : fd.scope.kind = .function := by kernel_rfl)
    (nocell : (fd.scope.names.all fun x => !(x.2 == .cell)) = true := by kernel_rfl) :
    wpAny (model prog w) A (call (.ref a) args.pos args.kw) Q NoE s := by
  refine wpAny_call (kla_callFunE hroom ho rfl hco hgen hbody hcat.rec' ?_)
  refine (Looks.of_peek (M := model prog w) X hbind).here ?_
  refine inner_env X hgl hbi hk nocell hlocal fun L hL nL s' F => ?_
  exact ⟨noLimit (F.K X), kla_codeExpr (wpAny_mono (h L hL nL s' F) (fun f s'' q => q) fun _ _ q => q.elim)⟩
end
theorem isCell_at {s s' : Shared} {c : Addr} {v} (h : s.heap.IsCell c v) (hs : Step0 s s') : s'.heap.IsCell c v := isCell_step0 h hs
theorem g_ldf {M : Model} {A : Around} {E : Value → Shared → Prop} {s s₀ : Shared} {env : Env} {m cm : Str → Option Value} {Q : Value → Shared → Prop} {x : Str} {c : Addr} {pos : Pos} {v : Value} (F : Run env s₀ m cm s) (hc : env.cells.lookup x = some c) (hv : s₀.heap.IsCell c (some v)) (h : Q v s)
    (hk : env.scope.kind = .function := by kernel_rfl) (hl : env.kindOf x = some .free := by kernel_rfl) (hd : (x == ("__debug__" : Str)) = false := by kernel_rfl) (hn : (x == ("__classdict__" : Str)) = false := by kernel_rfl) :
    wpAny M A (eval (.Name x pos) env) Q E s := ld_free hc (isCell_step0 hv F.since) h hk hl hd hn
end Mine
end
section
open PySem PySem.W PySem.W.X PyProof.Rows
namespace Mine
/-! the inner defs of the text -/
def inAt (k i : Nat) : Stmt := (fnBody k).getD i (.Pass default)
def inPar (k i : Nat) : Arguments := match inAt k i with
  | .FunctionDef _ a _ _ _ _ _ _ _ _ => a
  | _ => ⟨[], [], none, [], [], none, []⟩
def inBody (k i : Nat) : List Stmt := match inAt k i with
  | .FunctionDef _ _ b _ _ _ _ _ _ _ => b
  | _ => []
def inScope (k i : Nat) : Scope := match inAt k i with
  | .FunctionDef _ _ _ _ _ _ sc _ _ _ => sc
  | _ => default
def inFd (k i : Nat) (name qual : Str) (cl : List (Str × Addr)) (nm cv ct : Value) : FuncData := fdOf name qual (inPar k i) (.stmts (inBody k i)) (inScope k i) cl nm cv ct
def IsInner (s : Shared) (f : Addr) (fd : FuncData) : Prop := s.heap.get? f = some ⟨.type "function", none, .func fd, #[]⟩ ∧ CodeAt s.heap fd.code fd.qualname
theorem CodeAt.step0 {s s' : Shared} {cv q} (x : CodeAt s.heap cv q) (h : Step0 s s') : CodeAt s'.heap cv q :=
  let ⟨c, oc, vs, t, e, g, cl, d, v⟩ := x; ⟨c, oc, vs, t, e, h.at g (by unfold isTab; rw [cl]), cl, d, v⟩
theorem IsInner.step0 {s s' : Shared} {f fd} (x : IsInner s f fd) (h : Step0 s s') : IsInner s' f fd := ⟨h.at x.1, x.2.step0 h⟩
theorem IsInner.fn {s : Shared} {f fd} (x : IsInner s f fd) : IsFn s f := ⟨_, _, x.1, rfl⟩

section
variable {prog : Program} {w : World} {A : Around} {s : Shared}
/-- an inner def of a def that is run -/
theorem def_at (k i a : Nat) {env : Env} {s₀ : Shared} {m cm} {L : Addr} {p : Spot} {c : Addr} {name bind : Str} {Q : Flow → Shared → Prop} (henv : env = EV k a w.params L) (X : (KP w.params).In s₀.heap) (F : Run env s₀ m cm s) (TB : TabsOk s.heap) (hp : p ∈ spots)
    (st : ∃ ts pos, inAt k i = .FunctionDef name (inPar k i) (inBody k i) [] none [] (inScope k i) ts bind pos ∧ pos.line = p.line ∧ pos.col = p.col)
    (hq : qualnameIn (EV k a w.params L) name bind = p.qual) (hc : (EV k a w.params L).code = .ref c)
    (hd : defaultsOf (inPar k i) (EV k a w.params L) = ([], []))
    (hn : (match inPar k i with | ⟨po, a, va, ko, _, kwa, _⟩ => annotationsOf (a ++ po ++ va.toList ++ ko ++ kwa.toList)) (EV k a w.params L) = [])
    (C : CodeHd s.heap c p.tab)
    (h : ∀ f cv ct nm s', Step0 s s' → IsInner s' f (inFd k i name p.qual (clOf (inScope k i) (EV k a w.params L)) nm cv ct) → s.heap.get? f = none → wpAny (model prog w) A (storeName env bind (.ref f)) (fun _ s'' => Q .next s'') NoE s')
    (uniq : ∀ q ∈ spots, q.tab = p.tab → q.line = p.line → q.col = p.col → q.qual = p.qual := by decide) (hok : clOk (inScope k i).names (EV k a w.params L).cells = true := by kernel_rfl) (hdoc : docOf (inBody k i) = none := by kernel_rfl) (hg : (EV k a w.params L).globals = mainGlobals := by kernel_rfl) (hb : (EV k a w.params L).builtins = builtinsNs := by kernel_rfl) :
    wpAny (model prog w) A (exec (inAt k i) env) Q NoE s := by
  subst henv
  obtain ⟨ts, pos, e, hl, hcol⟩ := st
  rw [e]
  refine def_rule hd (by revert hn; cases inPar k i; exact id) ?_
  rw [hq]
  exact mk_fn (F.K X) TB hp hl hcol uniq C hc hok hg hb hdoc fun f cv ct nm s' st hcat ho nf => h f cv ct nm s' st ⟨ho, hcat⟩ nf

theorem isFn_K {P : Params} {a : Addr} (X : (KP P).In s.heap) (e : (KP P).lookup a = some (objAt P a) := by kernel_rfl) (d : (objAt P a).data = .func (fdAt P a) := by kernel_rfl) : IsFn s a := ⟨_, _, X _ _ e, d⟩

/-! maps -/
theorem dictOf_step {K : Type} [DecidableEq K] {knd : KeyKind prog w K} {X : Addr → Prop} {s s' : Shared} {a : Addr} {kvs : List (K × Value)} (h : s.heap.DictOf knd a kvs) (st : Step X s s') (n : ¬ X a) : s'.heap.DictOf knd a kvs :=
  let ⟨o, es, ep, e, c, d, r⟩ := h; ⟨o, es, ep, st.keep _ _ e (by unfold isTab; rw [d]; split <;> first | rfl | (rename_i q; cases q)) n, c, d, r⟩
theorem dictOf_some {K : Type} [DecidableEq K] {knd : KeyKind prog w K} {s : Shared} {a : Addr} {kvs : List (K × Value)} (h : s.heap.DictOf knd a kvs) : ∃ o, s.heap.get? a = some o := let ⟨o, _, _, e, _⟩ := h; ⟨o, e⟩
theorem sub_dict {K : Type} [DecidableEq K] {knd : KeyKind prog w K} {value slice : Expr} {d : Addr} {kvs : List (K × Value)} {k : K} {key v : Value} {Q : Value → Shared → Prop} (h : s.heap.DictOf knd d kvs) (hkey : knd.is k key = true) (hv : valueAt kvs k = some v)
    (hq : ∀ s', Step0 s s' → Q v s') (hs : subscripted slice false (.ref d) key = operate [key, .ref d] (getItem (.ref d) key)) :
    wpAny (model prog w) A (subscriptTail value slice (.ref d) key) Q NoE s :=
  tail_any h.typeIs slot_dict_getitem.lookup (wpAny_getItem_of hkey h.mapOf hv (hq _ (Step0.toks _ _))) hs
/-- a row of the law: its thing, its place -/
def IsRow (prog : Program) (w : World) (s : Shared) (r : Addr) (v : Value) (n : Int) : Prop := ∃ t, s.heap.DictOf (strKind prog w) r [("k", v), ("n", .int n t)]
theorem IsRow.step {X : Addr → Prop} {s s' : Shared} {r v n} (h : IsRow prog w s r v n) (st : Step X s s') (nx : ¬ X r) : IsRow prog w s' r v n := let ⟨t, h⟩ := h; ⟨t, dictOf_step h st nx⟩
theorem IsRow.step0 {s s' : Shared} {r v n} (h : IsRow prog w s r v n) (st : Step0 s s') : IsRow prog w s' r v n := h.step st id
theorem IsRow.some {s : Shared} {r v n} (h : IsRow prog w s r v n) : ∃ o, s.heap.get? r = some o := let ⟨_, h⟩ := h; dictOf_some h
theorem sub_k {value slice : Expr} {r : Addr} {v : Value} {n : Int} {t : Tok} {Q : Value → Shared → Prop} (h : IsRow prog w s r v n) (hq : ∀ s', Step0 s s' → Q v s') (hs : subscripted slice false (.ref r) (.str "k" t) = operate [.str "k" t, .ref r] (getItem (.ref r) (.str "k" t))) :
    wpAny (model prog w) A (subscriptTail value slice (.ref r) (.str "k" t)) Q NoE s := by
  obtain ⟨t, h⟩ := h
  exact sub_dict (k := ("k" : Str)) h (by kernel_rfl) rfl hq hs
theorem sub_n {value slice : Expr} {r : Addr} {v : Value} {n : Int} {t : Tok} {Q : Value → Shared → Prop} (h : IsRow prog w s r v n) (hq : ∀ t s', Step0 s s' → Q (.int n t) s') (hs : subscripted slice false (.ref r) (.str "n" t) = operate [.str "n" t, .ref r] (getItem (.ref r) (.str "n" t))) :
    wpAny (model prog w) A (subscriptTail value slice (.ref r) (.str "n" t)) Q NoE s := by
  obtain ⟨t, h⟩ := h
  exact sub_dict (k := ("n" : Str)) h (by kernel_rfl) rfl (hq t) hs
end
end Mine
end
section
open PySem PySem.W PySem.W.X PyProof.Rows
namespace Mine
/-! the classes' methods -/
def meAt (k i : Nat) : Stmt := match PySem.Challenge.pw_bw0018_01.main.body.getD k (.Pass default) with
  | .ClassDef _ _ _ b _ _ _ _ _ _ _ => b.getD i (.Pass default)
  | _ => .Pass default
def meBody (k i : Nat) : List Stmt := match meAt k i with
  | .FunctionDef _ _ b _ _ _ _ _ _ _ => b
  | _ => []
def meScope (k i : Nat) : Scope := match meAt k i with
  | .FunctionDef _ _ _ _ _ _ sc _ _ _ => sc
  | _ => default
noncomputable def EVs (sc : Scope) (a : Nat) (P : Params) (L : Addr) : Env := newEnv sc L mainGlobals (cellsFrom (L + 1) sc.names []) ((fdAt P a).qualname ++ ".<locals>.") (some a) (fdAt P a).code none builtinsNs
section
variable {prog : Program} {w : World} {A : Around} {s : Shared}
theorem call_at (body : List Stmt) (sc : Scope) (a : Nat) {args : Args} {binds : List (Str × Value)} {Q : Value → Shared → Prop} (X : (KP w.params).In s.heap) (hroom : A.depth < recursionLimit)
    (hbind : peek (KP w.params) ⟨prog, w.params⟩ (bindArgs (fdAt w.params a) args) = some binds)
    (hkind : ∀ L, ∀ x ∈ binds, sc.names.lookup x.1 = some .local ∨ (sc.names.lookup x.1 = some .cell ∧ ((cellsFrom (L + 1) sc.names []).lookup x.1).isSome = true))
    (h : ∀ L, 406 ≤ L → ∀ s', Run (EVs sc a w.params L) s (mL (EVs sc a w.params L) binds) (mC (EVs sc a w.params L) binds) s' →
      wpAny (model prog w) (A.deeper (EVs sc a w.params L)) (execs body (EVs sc a w.params L)) (fun f s' => Q (match f with | .ret v => v | _ => .none) s') NoE s')
    (c1 : (KP w.params).lookup a = some (objAt w.params a) := by kernel_rfl) (c2 : (objAt w.params a).data = .func (fdAt w.params a) := by kernel_rfl) (c3 : (fdAt w.params a).body = .stmts body := by kernel_rfl)
    (c4 : (fdAt w.params a).scope = sc := by kernel_rfl) (c5 : (fdAt w.params a).globals = mainGlobals := by kernel_rfl) (c6 : (fdAt w.params a).builtins = builtinsNs := by kernel_rfl) (c7 : (fdAt w.params a).closure = [] := by kernel_rfl)
    (c8 : codeIn (KP w.params) (fdAt w.params a).code (fdAt w.params a).qualname = true := by kernel_rfl) (c9 : sc.isCoroutine = false := by kernel_rfl) (c10 : sc.isGenerator = false := by kernel_rfl) (c11 : sc.kind = .function := by kernel_rfl) :
    wpAny (model prog w) A (call (.ref a) args.pos args.kw) Q NoE s :=
  call_def X c1 c2 c3 c4 c5 c6 c7 c8 hroom (fun E Q h => (Looks.of_peek (M := model prog w) X hbind).here h) hkind (fun L env he hL s' F h01 hn => by
    subst he
    refine h L hL s' ⟨F, h01, fun b hb => ?_⟩
    cases q : s.heap.get? b with
    | none => rfl
    | some o => exact absurd hb (hn b ⟨o, q⟩)) c9 c10 c11
theorem code_at (body : List Stmt) (sc : Scope) (a : Nat) {args : Args} {binds : List (Str × Value)} {Q : Value → Shared → Prop} (X : (KP w.params).In s.heap) (hroom : A.depth < recursionLimit)
    (hbind : peek (KP w.params) ⟨prog, w.params⟩ (bindArgs (fdAt w.params a) args) = some binds)
    (hkind : ∀ L, ∀ x ∈ binds, sc.names.lookup x.1 = some .local ∨ (sc.names.lookup x.1 = some .cell ∧ ((cellsFrom (L + 1) sc.names []).lookup x.1).isSome = true))
    (h : ∀ L, 406 ≤ L → ∀ s', Run (EVs sc a w.params L) s (mL (EVs sc a w.params L) binds) (mC (EVs sc a w.params L) binds) s' →
      wpAny (model prog w) (A.deeper (EVs sc a w.params L)) (execs body (EVs sc a w.params L)) (fun f s' => Q (match f with | .ret v => v | _ => .none) s') NoE s')
    (c1 : (KP w.params).lookup a = some (objAt w.params a) := by kernel_rfl) (c2 : (objAt w.params a).data = .func (fdAt w.params a) := by kernel_rfl) (c3 : (fdAt w.params a).body = .stmts body := by kernel_rfl)
    (c4 : (fdAt w.params a).scope = sc := by kernel_rfl) (c5 : (fdAt w.params a).globals = mainGlobals := by kernel_rfl) (c6 : (fdAt w.params a).builtins = builtinsNs := by kernel_rfl) (c7 : (fdAt w.params a).closure = [] := by kernel_rfl)
    (c8 : codeIn (KP w.params) (fdAt w.params a).code (fdAt w.params a).qualname = true := by kernel_rfl) (c9 : sc.isCoroutine = false := by kernel_rfl) (c10 : sc.isGenerator = false := by kernel_rfl) (c11 : sc.kind = .function := by kernel_rfl) :
    codeAny (model prog w) A (.call (.ref a) args) (Back Q) s :=
  code_def X c1 c2 c3 c4 c5 c6 c7 c8 hroom (fun E Q h => (Looks.of_peek (M := model prog w) X hbind).here h) hkind (fun L env he hL s' F h01 hn => by
    subst he
    refine h L hL s' ⟨F, h01, fun b hb => ?_⟩
    cases q : s.heap.get? b with
    | none => rfl
    | some o => exact absurd hb (hn b ⟨o, q⟩)) c9 c10 c11
/-- the law's world -/
def IsWorld (s : Shared) (r : Addr) : Prop := ∃ d od, s.heap.get? r = some ⟨.ref 379, some d, .plain, #[]⟩ ∧ s.heap.get? d = some od ∧ isTab od = false ∧ shadowIn (some od) "getitem" = some false
theorem IsWorld.step {X : Addr → Prop} {s s' : Shared} {r} (h : IsWorld s r) (st : Step X s s') (n : ∀ b, (∃ o, s.heap.get? b = some o) → ¬ X b) : IsWorld s' r :=
  let ⟨d, od, e, e2, t, sh⟩ := h; ⟨d, od, st.keep _ _ e rfl (n _ ⟨_, e⟩), st.keep _ _ e2 t (n _ ⟨_, e2⟩), t, sh⟩
theorem IsWorld.step0 {s s' : Shared} {r} (h : IsWorld s r) (st : Step0 s s') : IsWorld s' r := h.step st fun _ _ q => q
theorem world_getitem {r : Addr} {pl : Sem Bool} {Q : Value × List Value → Shared → Prop} (X : (KP w.params).In s.heap) (h : IsWorld s r) (k : Q (.ref 376, [.ref r]) s) : wpAny (model prog w) A (getMethod (.ref r) "getitem" pl) Q NoE s := by
  obtain ⟨d, od, e, e2, t, sh⟩ := h
  exact method_fn (C := 379) (ox := ⟨.ref 379, some d, .plain, #[]⟩) X ⟨e, rfl, rfl, e2⟩ (by kernel_rfl) (by kernel_rfl) (by kernel_rfl) (by kernel_rfl) sh k
end
end Mine
end
section
open PySem PySem.W PySem.W.X PyProof.Rows
namespace Mine
section
variable {prog : Program} {w : World} {A : Around} {s : Shared}
theorem op_setL {l : Addr} {vs : List Value} {k : Nat} {t : Tok} {v : Value} {Q : Unit → Shared → Prop} (h : IsL s l vs) (hk : k < vs.length) (hz : vs.length ≤ 1000) (q : ∀ s', IsL s' l (vs.set k v) → Step (fun b => b = l) s s' → Q () s') :
    wpAny (model prog w) A (setItem (.ref l) (.int k t) v) Q NoE s := by
  obtain ⟨n, ho⟩ := h
  have ho' : (s.heap.update l (Obj.mapSeq (·.setIfInBounds k v))).get? l = some (Obj.mapSeq (·.setIfInBounds k v) (lst vs n)) := Heap.get?_update_self _ ho (by unfold Obj.mapSeq; rfl)
  obtain ⟨n', e⟩ : ∃ n', Obj.mapSeq (·.setIfInBounds k v) (lst vs n) = lst (vs.set k v) n' := by
    refine ⟨?_, ?_⟩
    rotate_left
    · unfold Obj.mapSeq lst
      simp only [List.setIfInBounds_toArray]
      rfl
  exact ki_setAt ho (by omega) (by omega) (by simpa using hk) (q _ ⟨n', ho'.trans (congrArg some e)⟩ (Step.of_same (t := s.toks) rfl (Heap.SameBut.update ..) fun o e => by rw [ho] at e; cases e; rfl))
theorem op_mulL {l : Addr} {vs : List Value} {x : Int} {u : Tok} {Q : Value → Shared → Prop} (h : IsL s l vs) (hx : 0 ≤ x) (hx' : x ≤ 1000) (hz : vs.length ≤ 1000)
    (k : ∀ r s', Step0 s s' → IsL s' r (List.replicate x.toNat vs).flatten → s.heap.get? r = none → Q (.ref r) s') :
    wpAny (model prog w) A (binaryOp .Mult (.ref l) (.int x u)) Q NoE s := by
  obtain ⟨n, ho⟩ := h
  have hz2 : vs.length * x.toNat ≤ 2 ^ 24 := by
    have : vs.length * x.toNat ≤ 1000 * 1000 := Nat.mul_le_mul hz (by omega)
    omega
  have hsmall : ¬ vs.toArray.size * x.toNat > (2 ^ 63 - 1) / 8 := by
    have e : vs.toArray.size = vs.length := by simp
    rw [e]; omega
  have hlong : Builtin.List.listTooLong (vs.toArray.size * x.toNat) = false := by
    have e : vs.toArray.size = vs.length := by simp
    rw [e]
    simp [Builtin.List.listTooLong, sizeLine]
    omega
  refine wpAny_binaryOp_repeat_ref (T := "list") (U := "int") (by decide) ⟨_, ho, rfl⟩ (fun s' => typeIs_int s' x u) noFill_list_mul F.fills_int_mul F.slot_int_rmul repeat_list F.slot_int_index.lookup
    (call_meets F.slot_int_rmul (typeIs_int s x u) F.entry_int_rmul (F.args_int_rmul_2 _ _) (lm_int_rmul_list_any x u l vs.toArray n none #[])
      ⟨ho, rfl, ⟨_, ho, rfl⟩, call_meets F.slot_list_mul ⟨_, ho, rfl⟩ F.entry_list_mul (F.args_list_mul_2 _ _)
        (lm_list_mul_any l vs.toArray n none #[] x u (by simp [Builtin.List.listFitsIndex]; omega) hsmall (by rw [hlong]; decide))
        ⟨ho, ?_⟩⟩)
  exact k _ _ (Step0.push _ _) ⟨0, by rw [Heap.get?_push_size _ rfl, listMul_foldl_if]⟩ (Heap.get?_none_of_le (Nat.le_refl _))
/-- enumerate(list) -/
theorem op_enum {l : Addr} {vs : List Value} {Q : Value → Shared → Prop} (h : IsL s l vs) (h4 : 406 ≤ s.heap.objs.size)
    (k : ∀ e it s', Step0 s s' → IsEnum s'.heap e it 0 .none → s'.heap.IsListIter it l 0 → e ≠ it → s.heap.get? e = none → s.heap.get? it = none → 406 ≤ e → 406 ≤ it → Q (.ref e) s') :
    wpAny (model prog w) A (call (.type "enumerate") [.ref l]) Q NoE s := by
  refine call_enumerate_list h.is fun h' he hit hsz hk => ?_
  exact k (s.heap.objs.size + 1) s.heap.objs.size _ (Step0.of_heap (t := s.toks) hk) he hit (Nat.succ_ne_self _) (Heap.get?_none_of_le (Nat.le_succ _)) (Heap.get?_none_of_le (Nat.le_refl _)) (Nat.le_succ_of_le h4) h4
end
end Mine
end
section
open PySem PySem.W PySem.W.X PyProof.Rows
namespace Mine
section
variable {prog : Program} {w : World} {A : Around} {s : Shared} {env : Env}
theorem op_truthyL {l : Addr} {vs : List Value} {Q : Bool → Shared → Prop} (h : IsL s l vs) (hz : vs.length ≤ 1000) (k : ∀ s', Step0 s s' → Q (!vs.isEmpty) s') : wpAny (model prog w) A (truthy (.ref l)) Q NoE s := by
  refine wpAny_truthy_list h.is (by simp; omega) ?_
  have e : (!vs.toArray.isEmpty) = (!vs.isEmpty) := by cases vs <;> rfl
  first
    | exact e ▸ k _ (Step0.toks _ _)
    | exact e ▸ k _ (Step.refl _ _)
    | (have := k _ (Step.refl _ _); simpa using this)
    | (have := k _ (Step0.toks s (s.toks + 1)); simpa using this)
/-- the last item, by -1 -/
theorem sub_last {value slice : Expr} {l : Addr} {vs : List Value} {t : Tok} {v : Value} {Q : Value → Shared → Prop} (h : IsL s l vs) (hx : vs.getLast? = some v) (hz : vs.length ≤ 1000) (hq : Q v s)
    (hs : subscripted slice false (.ref l) (.int (-1) t) = operate [.int (-1) t, .ref l] (getItem (.ref l) (.int (-1) t))) :
    wpAny (model prog w) A (subscriptTail value slice (.ref l) (.int (-1) t)) Q NoE s := by
  have hn : vs ≠ [] := fun e => by rw [e] at hx; cases hx
  have hp : 0 < vs.length := List.length_pos_iff.mpr hn
  refine tail_any h.is.typeIs slot_list_getitem.lookup (wpAny_getItem_list_neg h.is (by omega) (by simp; omega) (by omega) ?_ hq) hs
  rw [List.getLast?_eq_getElem?] at hx
  have e : ((-1 : Int) + (vs.toArray.size : Int)).toNat = vs.length - 1 := by simp; omega
  rw [e]
  simpa using hx
theorem cmp_eq {v u : Value} {a b : Key} {Q : Value → Shared → Prop} (hv : IsKey v a) (hu : IsKey u b) (hs : a.same b = true) (h : Q (.bool (decide (a = b))) s) : wpAny (model prog w) A (compareOp .Eq v u) Q NoE s := by
  cases a <;> cases b <;> simp only [Key.same, Bool.false_eq_true] at hs
  · rename_i i j
    obtain ⟨t, rfl⟩ := hv
    obtain ⟨t', rfl⟩ := hu
    refine PyProof.Rows.eq_int ?_
    have e : (i == j) = decide (Key.i i = Key.i j) := by rw [Bool.eq_iff_iff]; simp
    rw [e]; exact h
  · obtain ⟨x, t, rfl, rfl⟩ := hv
    obtain ⟨x', t', rfl, rfl⟩ := hu
    refine P.eq_str ?_
    have e : (x.cps.toList == x'.cps.toList) = decide (Key.s x.cps.toList = Key.s x'.cps.toList) := by rw [Bool.eq_iff_iff]; simp
    rw [e]; exact h
theorem meth_append {l : Addr} {vs : List Value} {pl : Sem Bool} {Q : Value × List Value → Shared → Prop} (h : IsL s l vs) (k : Q (.builtin "list.append", [.ref l]) s) : wpAny (model prog w) A (getMethod (.ref l) "append" pl) Q NoE s :=
  let ⟨n, e⟩ := h; Calls.getMethod_list_append e rfl rfl k
end
end Mine
end
section
open PySem PySem.W PySem.W.X PyProof.Rows
namespace Mine
def SizeLe (h : Heap) (a : Addr) (n : Nat) : Prop := ∃ o es ep, h.get? a = some o ∧ o.data = .dict es ep ∧ es.size ≤ n
theorem putName_size {name : Str} {h : Int} {key v : Value} {o : Obj} {es ep n} (d : o.data = .dict es ep) (hz : es.size ≤ n) : ∃ es' ep', (Obj.putName name h key v o).data = .dict es' ep' ∧ es'.size ≤ n + 1 := by
  obtain ⟨c, dd, dt, sl⟩ := o
  subst d
  rw [Obj.putName_eq]
  unfold Obj.putNameByArray
  dsimp only
  split
  · exact ⟨_, _, rfl, by rw [Array.size_modify]; omega⟩
  · exact ⟨_, _, rfl, by rw [Array.size_push]; omega⟩
theorem freed_dict {o : Obj} {es ep} (h : o.data = .dict es ep) : o.isFreed = false := by
  obtain ⟨c, d, dt, sl⟩ := o
  subst h; rfl
theorem nsSetLe {M : Model} {A : Around} {E : Value → Shared → Prop} {s : Shared} {a : Addr} {m : Str → Option Value} {n : Nat} {name : Str} {v : Value} {Q : Unit → Shared → Prop} (hn : s.heap.Ns a m) (hz : SizeLe s.heap a n)
    (hQ : ∀ h', h'.Ns a (fun x => if x = name then some v else m x) → Heap.SameBut a s.heap h' → SizeLe h' a (n + 1) → Q () { s with heap := h', toks := s.toks + 1 }) : wpAny M A (nsSet a name v) Q E s := by
  intro Γ p hΓ
  have key := Sem.wp_nsSet M Γ (fun e _ s' => E e s') p s hn name v (fun _ _ s' => s'.heap.Ns a (fun x => if x = name then some v else m x) ∧ Heap.SameBut a s.heap s'.heap) (fun h' a b => ⟨a, b⟩)
  obtain ⟨o, es, ep, ho, hd, hk, hm⟩ := hn
  obtain ⟨o', es', ep', ho', hd', hz'⟩ := hz
  rw [ho] at ho'; cases ho'; rw [hd] at hd'; cases hd'
  have hany : es.any (·.refKey) = false := by
    rw [Array.any_eq_false']; intro e he; obtain ⟨n, t, h⟩ := hk e he; simp [DictEntry.refKey, h]
  simp only [nsSet, strHash, Sem.wp_bind', Sem.wp_cmd_ask, Sem.wp_pure', Sem.wp_cmd_mkText] at key ⊢
  rw [Sem.wp_loadPart_of M Γ _ p { s with toks := s.toks + 1 } (o := o) _ ho] at key ⊢
  simp only [hd, aRefKeyMayBeTheName_eq, aRefKeyMayBeTheNameByArray, hany, Bool.and_false, Bool.false_eq_true, if_false, Sem.wp_cmd_updatePart] at key ⊢
  refine ⟨key.1, hQ _ key.2.1 key.2.2 ?_⟩
  obtain ⟨es', ep', d', z'⟩ := putName_size (name := name) (h := _) (key := _) (v := v) hd hz'
  exact ⟨_, es', ep', Heap.get?_update_self _ ho (freed_dict d'), d', z'⟩
/-- an instance of the class C, its names -/
def IsInst (s : Shared) (C x dx : Addr) (mA : Str → Option Value) (n : Nat) : Prop := s.heap.get? x = some ⟨.ref C, some dx, .plain, #[]⟩ ∧ s.heap.Ns dx mA ∧ SizeLe s.heap dx n
section
variable {prog : Program} {w : World} {A : Around} {s : Shared}
theorem op_setA {C x dx : Addr} {mA : Str → Option Value} {n : Nat} {name : Str} {v : Value} {Q : Unit → Shared → Prop} (X : (KP w.params).In s.heap) (h : IsInst s C x dx mA n) (hn64 : n < 64) (k : ∀ s', IsInst s' C x dx (fun y => if y = name then some v else mA y) (n + 1) → Step (fun b => b = dx) s s' → Q () s')
    (hs : findIn (KP w.params) (.ref C) "__setattr__" = some (some (.builtin "object.__setattr__")) := by kernel_rfl) (hp : plainOver (KP w.params) C = true := by kernel_rfl) (ht : takerIn (KP w.params) C name = some none := by kernel_rfl) (hh : (clsIn (KP w.params) C).any (·.hasDict) = true := by kernel_rfl) :
    wpAny (model prog w) A (setAttr (.ref x) name v) Q NoE s := by
  obtain ⟨hx, hn, hsz⟩ := h
  obtain ⟨od, es, ep, e2, d2, r2⟩ := id hn
  have I : InstAt s.heap x ⟨.ref C, some dx, .plain, #[]⟩ C (some od) := ⟨hx, rfl, rfl, e2⟩
  refine set_plain X I hs ?_
  have st0 : Step0 s { s with toks := s.toks + 1 } := Step0.toks _ _
  generalize hs1 : ({ s with toks := s.toks + 1 } : Shared) = s₁ at st0 ⊢
  have X1 : (KP w.params).In s₁.heap := KP.step0 X st0
  have hx1 := st0.at hx
  have hn1 := Ns.step0 hn st0
  have hsz1 : SizeLe s₁.heap dx n := by rw [← hs1]; exact hsz
  have I1 : InstAt s₁.heap x ⟨.ref C, some dx, .plain, #[]⟩ C (some od) := ⟨hx1, rfl, rfl, st0.at e2 (by unfold isTab; rw [d2]; split <;> first | rfl | (rename_i q; cases q))⟩
  refine osa_open X1 I1 hp ht fun b => ?_
  obtain ⟨cd, hc, hd'⟩ := any_some hh
  refine wpAny_bind (wpAny_pure (wpAny_bind (wpAny_bind (wpAny_loadPart hx1 (wpAny_bind ((looks_clsIn X1 hc).here ?_))))))
  rw [hd']
  refine wpAny_pure (a := some dx) (wpAny_bind (wpAny_pure (wpAny_bind (nsSetLe (n := n) hn1 hsz1 fun h' hn' hsb hsz' => ?_))))
  have xd : x ≠ dx := fun e => by
    obtain ⟨o, _, _, e3, d3, _⟩ := hn
    rw [← e, hx] at e3; cases e3; cases d3
  have st1 : Step (fun b => b = dx) s₁ { s₁ with heap := h', toks := s₁.toks + 1 } := Step.of_same rfl hsb fun o e => by
    obtain ⟨o', _, _, e3, d3, _⟩ := hn1
    rw [e] at e3; cases e3; exact plain_dict d3
  obtain ⟨o2, es2, ep2, e4, d4, z4⟩ := id hsz'
  refine wpAny_bind (wpAny_lookBehind e4 (by rw [d4]; exact pastItsLine_dict (by rw [sizeLine_eq]; omega)) (wpAny_pure (k _ ⟨(hsb.2 x xd).trans hx1, hn', hsz'⟩ (st0.up.trans st1))))
end
end Mine
end
section
open PySem PySem.W PySem.W.X PyProof.Rows
namespace Mine

theorem revInd {α : Type} {P : List α → Prop} (h0 : P []) (h1 : ∀ l a, P l → P (l ++ [a])) (l : List α) : P l := by
  have : ∀ l : List α, P l.reverse := by
    intro l
    induction l with
    | nil => exact h0
    | cons a r ih => rw [List.reverse_cons]; exact h1 _ _ ih
  have := this l.reverse
  rwa [List.reverse_reverse] at this
/-- f answers for each of vs by a key -/
def KeyFn (prog : Program) (w : World) (s : Shared) (f : Addr) (vs : List Value) (κ : Value → Key) : Prop :=
  IsFn s f ∧ ∀ v ∈ vs, ∀ (A : Around) (s' : Shared) (Q : Value → Shared → Prop), Rm A 700 1000 → Step0 s s' → (∀ r s'', Step0 s' s'' → IsKey r (κ v) → Q r s'') → wpAny (model prog w) A (call (.ref f) [v]) Q NoE s'

def goesOn (κ : Value → Key) (back : Bool) (row d : Value) : Bool := if back then (κ row).le (κ d) else (κ d).le (κ row)
def orderAt (κ : Value → Key) (back : Bool) (done : List Value) (row : Value) : Nat := (done.takeWhile (goesOn κ back row)).length
def order1 (κ : Value → Key) (back : Bool) (done : List Value) (row : Value) : List Value := done.take (orderAt κ back done row) ++ [row] ++ done.drop (orderAt κ back done row)
def lawOrder (κ : Value → Key) (back : Bool) (vs : List Value) : List Value := vs.foldl (order1 κ back) []
theorem order1_mem (κ back done row) (x : Value) : x ∈ order1 κ back done row ↔ x ∈ done ∨ x = row := by
  unfold order1
  have : x ∈ done ↔ x ∈ done.take (orderAt κ back done row) ∨ x ∈ done.drop (orderAt κ back done row) := by
    conv => lhs; rw [← List.take_append_drop (orderAt κ back done row) done]
    exact List.mem_append
  rw [this]
  simp only [List.mem_append, List.mem_singleton]
  grind
theorem order1_len (κ back done row) : (order1 κ back done row).length = done.length + 1 := by
  unfold order1
  have : (done.take (orderAt κ back done row)).length + (done.drop (orderAt κ back done row)).length = done.length := by
    rw [← List.length_append, List.take_append_drop]
  simp only [List.length_append, List.length_singleton]
  omega
theorem lawOrder_snoc (κ back vs v) : lawOrder κ back (vs ++ [v]) = order1 κ back (lawOrder κ back vs) v := by unfold lawOrder; simp
theorem lawOrder_mem (κ back) (x : Value) : ∀ vs, x ∈ lawOrder κ back vs ↔ x ∈ vs := by
  refine revInd (by simp [lawOrder]) fun l a ih => ?_
  rw [lawOrder_snoc, order1_mem, ih]; simp
theorem lawOrder_len (κ back) : ∀ vs, (lawOrder κ back vs).length = vs.length := by
  refine revInd (by simp [lawOrder]) fun l a ih => ?_
  rw [lawOrder_snoc, order1_len, ih]; simp
theorem takeWhile_at {α : Type} (p : α → Bool) (l : List α) (k : Nat) (h1 : ∀ j x, j < k → l[j]? = some x → p x = true) (h2 : k ≤ l.length) (h3 : ∀ x, l[k]? = some x → p x = false) : (l.takeWhile p).length = k := by
  induction l generalizing k with
  | nil => simp at h2; simp [h2]
  | cons a r ih =>
    cases k with
    | zero =>
      have := h3 a (by simp)
      simp [List.takeWhile_cons, this]
    | succ k =>
      have := h1 0 a (by omega) (by simp)
      rw [List.takeWhile_cons, this]
      simp only [if_true, List.length_cons]
      rw [ih k (fun j x hj hx => h1 (j + 1) x (by omega) (by simpa using hx)) (by simpa using h2) (fun x hx => h3 x (by simpa using hx))]

section
variable {prog : Program} {w : World} {A : Around} {s : Shared}
def orderTail : List Stmt := match (fnBody 31).getD 1 (.Pass default) with
  | .For _ _ bd _ _ => bd.drop 2
  | _ => []
theorem c_order_tail {P : Params} {L d : Addr} {v : Value} {D : List Value} {p : Nat} {t : Tok} {m cm} {s₀ : Shared} {Q : Flow → Shared → Prop} (R : Rm A 601 903) (X : (KP P).In s₀.heap) (F : Run (EV 31 395 P L) s₀ m cm s) (m3 : m "done" = some (.ref d)) (m4 : m "row" = some v) (m5 : m "place" = some (.int (p : Nat) t))
    (hd : IsL s d D) (hD : D.length ≤ 100)
    (k : ∀ d' s', Run (EV 31 395 P L) s₀ (fun y => if y = "done" then some (.ref d') else m y) cm s' → Step (Hot (EV 31 395 P L)) s s' → IsL s' d' (D.take p ++ [v] ++ D.drop p) → s.heap.get? d' = none → Q .next s') :
    wpAny (model prog w) A (execs orderTail (EV 31 395 P L)) Q NoE s := by
  refine wpAny_execs_cons (wpAny_Assign_Name (wpAny_BinOp (wpAny_BinOp (sub_slice (g_ld F m3 (wpAny_pure (g_ld F m5 ⟨d, D, none, some (p : Int), rfl, hd, by omega, .none, .int _ _, fun r s₁ h1 hr nr => ?_⟩)))))))
  have F1 := F.step0 h1
  refine List_ (spliced_more (g_ld F1 m4 (spliced_none (op_newList (by simp) (fun r2 s₂ h2 hr2 nr2 _ => ?_) (size_ge (F1.K X))))))
  have F2 := F1.step0 h2
  rw [pick_upto] at hr
  have ht : (D.take p).length ≤ 100 := Nat.le_trans (List.length_take_le' _ _) hD
  refine op_addL R.mono (hr.step0 h2) hr2 (by simp; omega) (fun r3 s₃ h3 hr3 nr3 => ?_)
  have F3 := F2.step0 h3
  refine sub_slice (g_ld F3 m3 (g_ld F3 m5 (wpAny_pure ⟨d, D, some (p : Int), none, rfl, ((hd.step0 h1).step0 h2).step0 h3, by omega, .int _ _, .none, fun r4 s₄ h4 hr4 nr4 => ?_⟩)))
  have F4 := F3.step0 h4
  rw [pick_from] at hr4
  refine op_addL R.mono (hr3.step0 h4) hr4 (by simp; omega) (fun r5 s₅ h5 hr5 nr5 => ?_)
  refine g_st (F4.step0 h5) fun s₆ F6 h6 => ?_
  exact wpAny_execs_nil (k r5 s₆ F6 ((Step.up ((((h1.trans h2).trans h3).trans h4).trans h5)).trans h6) (hr5.step h6 (F4.hotAt nr5)) (Step0.notThere (((h1.trans h2).trans h3).trans h4) nr5))
theorem c_order {l f : Addr} {vs : List Value} {κ : Value → Key} {b : Bool} {Q : Value → Shared → Prop} (R : Rm A 600 900) (X : (KP w.params).In s.heap) (hl : IsL s l vs) (hz : vs.length ≤ 100)
    (hf : KeyFn prog w s f vs κ) (hsame : ∀ v ∈ vs, ∀ u ∈ vs, (κ v).same (κ u) = true)
    (k : ∀ r s', Step0 s s' → IsL s' r (lawOrder κ b vs) → s.heap.get? r = none → Q (.ref r) s') :
    wpAny (model prog w) A (call (.ref 395) [.ref l, .ref f, .bool b]) Q NoE s := by
  refine call_txt 31 395 (args := ⟨[.ref l, .ref f, .bool b], []⟩) (binds := [("rows", .ref l), ("key", .ref f), ("back", .bool b)]) X
    (Nat.lt_of_le_of_lt R.depth (by decide)) (by kernel_rfl) (fun L => List.forall_mem_cons.mpr ⟨.inl (by kernel_rfl), List.forall_mem_cons.mpr ⟨.inl (by kernel_rfl), List.forall_mem_cons.mpr ⟨.inl (by kernel_rfl), List.forall_mem_nil _⟩⟩⟩)
    (fun L hL s₁ F0 h01 hn => ?_)
  have R1 := R.deeper (EV 31 395 w.params L)
  have F : Run (EV 31 395 w.params L) s _ _ s₁ := ⟨F0, h01, hn⟩
  obtain ⟨ol, hol⟩ := hl.some
  -- done = []
  refine wpAny_execs_cons (wpAny_Assign_Name (List_ (spliced_none (op_newList (by decide) (fun d s₂ h2 hd nd _ => ?_) (size_ge (F.K X))))))
  refine g_st (F.step0 h2) fun s₃ F3 h3 => ?_
  have cd : ¬ Hot (EV 31 395 w.params L) d := F.hotAt nd
  have hd3 := hd.step h3 cd
  -- for row in rows
  refine wpAny_execs_cons (for_rule (g_ld F3 (v := .ref l) (by kernel_rfl) (iter_list (hl.step0 F3.since).is (fun I s₄ hit h4 nI hI4 => ?_) (size_ge (F3.K X)))))
  have F4 := F3.step0 h4
  have cI : ¬ Hot (EV 31 395 w.params L) I := F3.hotAt nI
  refine ⟨I, _, _, _, _, _, fun i s' => ∃ m cm d, Run (EV 31 395 w.params L) s m cm s' ∧ m "key" = some (.ref f) ∧ m "back" = some (.bool b) ∧ m "done" = some (.ref d) ∧ IsL s' d (lawOrder κ b (vs.take i)) ∧ ¬ Hot (EV 31 395 w.params L) d ∧ d ≠ I ∧ s.heap.get? d = none, rfl,
    src_list R1.handled cI (F3.cold hol) (fun e => by rw [← e] at nI; rw [hl.step0 F3.since |>.some.choose_spec] at nI; cases nI) hI4 (by kernel_rfl) (by kernel_rfl), ⟨hit, (hl.step0 F4.since).is⟩,
    ⟨_, _, d, F4, by kernel_rfl, by kernel_rfl, by kernel_rfl, by simpa [lawOrder] using hd3.step0 h4, cd, (fun e => by (rw [← e] at nI; rw [hd3.some.choose_spec] at nI; cases nI)), F.newAt nd⟩, ?turn, ?fin⟩
  case fin =>
    rintro s₅ s₆ ⟨m, cm, d, F5, m1, m2, m3, hd5, cd5, dI, dn⟩ h6
    have F6 : Run (EV 31 395 w.params L) s m cm s₆ := F5.stepX h6 (fun b e => e ▸ cI) (fun b e => e ▸ F3.newAt nI)
    refine wpAny_execs_cons (wpAny_Return_some (g_ld F6 m3 ?_))
    refine k d s₆ F6.since ?_ ?_
    · simpa using hd5.step h6 (fun e => dI e)
    · exact dn
  case turn =>
    rintro i s₅ hi ⟨m, cm, d, F5, m1, m2, m3, hd5, cd5, dI, dn⟩
    refine ⟨m, cm, F5.act, ?_⟩
    rintro m' s₆ ⟨v, hv, rfl⟩ F6' h6 st6
    have hv' : vs[i]? = some v := by simpa using hv
    have hvm : v ∈ vs := List.mem_of_getElem? hv'
    have F6 : Run (EV 31 395 w.params L) s _ cm s₆ := ⟨F6', (Step.trans F5.since.up h6).new (fun b hb _ => hb.elim (F5.new b) fun e => e ▸ F3.newAt nI), F5.new⟩
    have hd6 : IsL s₆ d (lawOrder κ b (vs.take i)) := hd5.step h6 (fun q => q.elim cd5 dI)
    generalize hD : lawOrder κ b (vs.take i) = D at hd6
    have hDm : ∀ x ∈ D, x ∈ vs := fun x hx => by
      rw [← hD, lawOrder_mem] at hx
      exact List.mem_of_mem_take hx
    have hDl : D.length ≤ 100 := by
      rw [← hD, lawOrder_len]
      exact Nat.le_trans (List.length_take_le' _ _) hz
    have hnext : lawOrder κ b (vs.take (i + 1)) = order1 κ b D v := by
      rw [List.take_add_one, hv', Option.toList_some, lawOrder_snoc, hD]
    clear hD
    -- place = 0
    refine wpAny_execs_cons (wpAny_Assign_Name (g_int fun t s₇ h7 => ?_))
    refine g_st (F6.step0 h7) fun s₈ F8 h8 => ?_
    have hd8 := (hd6.step0 h7).step h8 cd5
    -- while
    refine wpAny_execs_cons (while_rule (fun n s' => ∃ m t p, Run (EV 31 395 w.params L) s m cm s' ∧ m "key" = some (.ref f) ∧ m "back" = some (.bool b) ∧ m "done" = some (.ref d) ∧ m "row" = some v ∧ m "place" = some (.int (p : Nat) t) ∧
        IsL s' d D ∧ Step (Hot (EV 31 395 w.params L)) s₆ s' ∧ p ≤ D.length ∧ n = D.length - p ∧ ∀ j x, j < p → D[j]? = some x → goesOn κ b v x = true) (D.length - 0)
        ⟨_, t, 0, F8, m1, m2, m3, by kernel_rfl, by kernel_rfl, hd8, (Step.up h7).trans h8, Nat.zero_le _, rfl, fun j x h => absurd h (Nat.not_lt_zero _)⟩ ?_)
    rintro n s₉ ⟨m, t, p, F9, m1, m2, m3, m4, m5, hd9, h9, hp, rfl, hgo⟩
    refine isTrue_and (wpAny_isTrue_Compare1 (g_ld F9 m5 (Call_ (g_built F9 X (.builtin "len") (cw_builtin (spliced_more (g_ld F9 m3 (spliced_none (op_len R1.mono hd9 (by omega) fun t' s' h' => ?_)))))))))
    have F10 := F9.step0 h'
    have hd10 := hd9.step0 h'
    have h10 := h9.trans (Step.up h')
    clear F9 hd9 h9 h'
    refine PyProof.Rows.lt_int (wpAny_truthy_bool ?_)
    -- what follows the loop
    have after : ∀ s₁₁ m cm t, Run (EV 31 395 w.params L) s m cm s₁₁ → m "key" = some (.ref f) → m "back" = some (.bool b) → m "done" = some (.ref d) → m "row" = some v → m "place" = some (.int (p : Nat) t) → IsL s₁₁ d D → Step (Hot (EV 31 395 w.params L)) s₆ s₁₁ → p = orderAt κ b D v →
        wpAny (model prog w) (A.deeper (EV 31 395 w.params L)) (execs orderTail (EV 31 395 w.params L)) (fun f_1 s'' => match f_1 with
            | Flow.next | Flow.cont => (∃ m cm d, Run (EV 31 395 w.params L) s m cm s'' ∧ m "key" = some (.ref f) ∧ m "back" = some (.bool b) ∧ m "done" = some (.ref d) ∧ IsL s'' d (lawOrder κ b (vs.take (i + 1))) ∧ ¬ Hot (EV 31 395 w.params L) d ∧ d ≠ I ∧ s.heap.get? d = none) ∧ Step (Hot (EV 31 395 w.params L)) s₆ s''
            | Flow.brk => wpAny (model prog w) (A.deeper (EV 31 395 w.params L)) (execs ((fnBody 31).drop 2) (EV 31 395 w.params L)) (fun f s' => Q (match f with | .ret v => v | _ => .none) s') NoE s''
            | Flow.ret v => Q v s'') NoE s₁₁ := by
      intro s₁₁ m cm t F11 m1 m2 m3 m4 m5 hd11 h11 hpe
      refine c_order_tail R1 X F11 m3 m4 m5 hd11 hDl fun d' s' F' h' hd' nd' => ?_
      refine ⟨⟨_, _, d', F', keepN m1, keepN m2, putN, by rw [hnext]; unfold order1; rw [← hpe]; exact hd', F11.hotAt nd', ?_, F11.newAt nd'⟩, h11.trans h'⟩
      rintro rfl
      obtain ⟨o, e, _⟩ := isIter_step st6.1 h11 cI
      rw [e] at nd'; cases nd'
    by_cases hlt : p < D.length
    · have hlt' : decide ((p : Int) < (D.length : Int)) = true := by simpa using hlt
      simp only [hlt', if_true]
      obtain ⟨x, hx⟩ : ∃ x, D[p]? = some x := ⟨D[p], by simp [hlt]⟩
      have hxm := hDm x (List.mem_of_getElem? hx)
      have hkeyx := hf.2 x hxm
      have hkeyv := hf.2 v hvm
      have hs1 := hsame x hxm v hvm
      have R2 : Rm (A.deeper (EV 31 395 w.params L)) 700 1000 := R1.mono
      have go : ∀ s₁₁ m t, Run (EV 31 395 w.params L) s m cm s₁₁ → m "key" = some (.ref f) → m "back" = some (.bool b) → m "done" = some (.ref d) → m "row" = some v → m "place" = some (.int ((p : Int) + 1) t) → IsL s₁₁ d D → Step (Hot (EV 31 395 w.params L)) s₆ s₁₁ → goesOn κ b v x = true →
          ∃ n, n < D.length - p ∧ ∃ m t p, Run (EV 31 395 w.params L) s m cm s₁₁ ∧ m "key" = some (.ref f) ∧ m "back" = some (.bool b) ∧ m "done" = some (.ref d) ∧ m "row" = some v ∧ m "place" = some (.int (p : Nat) t) ∧
        IsL s₁₁ d D ∧ Step (Hot (EV 31 395 w.params L)) s₆ s₁₁ ∧ p ≤ D.length ∧ n = D.length - p ∧ ∀ j x, j < p → D[j]? = some x → goesOn κ b v x = true := by
        intro s₁₁ m t F m1 m2 m3 m4 m5 hd h hg
        refine ⟨D.length - (p + 1), by omega, m, t, p + 1, F, m1, m2, m3, m4, by rw [m5]; rfl, hd, h, by omega, rfl, fun j y hj hy => ?_⟩
        by_cases e : j < p
        · exact hgo j y e hy
        · have : j = p := by omega
          subst this
          rw [hx] at hy; cases hy
          exact hg
      have stop : ∀ {c : Bool}, goesOn κ b v x = false → p = orderAt κ b D v := fun h => by
        unfold orderAt; rw [takeWhile_at _ _ p (fun j x hj hx => hgo j x hj hx) hp (fun y hy => by rw [hx] at hy; cases hy; exact h)]
      refine isTrue_and (isTrue_IfExp (isTrue_plain (g_ld F10 m2 (wpAny_truthy_bool ?_))))
      cases b
      case false =>
        simp only [Bool.false_eq_true, if_false]
        refine wpAny_isTrue_Compare1 (Call_ (g_ld F10 m1 (cw_fn (spliced_more (Subscript_ (g_ld F10 m3 (g_ld F10 m5 (sub_item hd10 hx (by omega) (spliced_none ⟨hf.1.step0 F10.since, hkeyx _ _ _ R2 F10.since fun r1 s₁₁ h11 kr1 => ?_⟩) rfl))))))))
        have F11 := F10.step0 h11
        refine Call_ (g_ld F11 m1 (cw_fn (spliced_more (g_ld F11 m4 (spliced_none ⟨hf.1.step0 F11.since, hkeyv _ _ _ R2 F11.since fun r2 s₁₂ h12 kr2 => ?_⟩)))))
        have F12 := F11.step0 h12
        have hd12 := (hd10.step0 h11).step0 h12
        have H12 := (h10.trans (Step.up h11)).trans (Step.up h12)
        refine cmp_le kr1 kr2 hs1 (wpAny_truthy_bool ?_)
        have e : (κ x).le (κ v) = goesOn κ false v x := rfl
        rw [e]
        cases hg : goesOn κ false v x
        case false => exact after _ m _ t F12 m1 m2 m3 m4 m5 hd12 H12 (stop (c := true) hg)
        case true =>
          refine isTrue_and_nil ?_
          simp only [if_true]
          refine wpAny_execs_cons (wpAny_AugAssign_Name (g_ldn F12 m5 (g_int fun t2 s₁₃ h13 => g_addi fun t3 s₁₄ h14 => ?_)))
          refine g_st ((F12.step0 h13).step0 h14) fun s₁₅ F15 h15 => ?_
          refine wpAny_execs_nil (go _ _ t3 F15 (keepN m1) (keepN m2) (keepN m3) (keepN m4) putN (((hd12.step0 h13).step0 h14).step h15 cd5) (((H12.trans (Step.up h13)).trans (Step.up h14)).trans h15) hg)
      case true =>
        simp only [if_true]
        refine wpAny_isTrue_Compare1 (Call_ (g_ld F10 m1 (cw_fn (spliced_more (Subscript_ (g_ld F10 m3 (g_ld F10 m5 (sub_item hd10 hx (by omega) (spliced_none ⟨hf.1.step0 F10.since, hkeyx _ _ _ R2 F10.since fun r1 s₁₁ h11 kr1 => ?_⟩) rfl))))))))
        have F11 := F10.step0 h11
        refine Call_ (g_ld F11 m1 (cw_fn (spliced_more (g_ld F11 m4 (spliced_none ⟨hf.1.step0 F11.since, hkeyv _ _ _ R2 F11.since fun r2 s₁₂ h12 kr2 => ?_⟩)))))
        have F12 := F11.step0 h12
        have hd12 := (hd10.step0 h11).step0 h12
        have H12 := (h10.trans (Step.up h11)).trans (Step.up h12)
        refine cmp_ge kr1 kr2 hs1 (wpAny_truthy_bool ?_)
        have e : (κ v).le (κ x) = goesOn κ true v x := rfl
        rw [e]
        cases hg : goesOn κ true v x
        case false => exact after _ m _ t F12 m1 m2 m3 m4 m5 hd12 H12 (stop (c := true) hg)
        case true =>
          refine isTrue_and_nil ?_
          simp only [if_true]
          refine wpAny_execs_cons (wpAny_AugAssign_Name (g_ldn F12 m5 (g_int fun t2 s₁₃ h13 => g_addi fun t3 s₁₄ h14 => ?_)))
          refine g_st ((F12.step0 h13).step0 h14) fun s₁₅ F15 h15 => ?_
          refine wpAny_execs_nil (go _ _ t3 F15 (keepN m1) (keepN m2) (keepN m3) (keepN m4) putN (((hd12.step0 h13).step0 h14).step h15 cd5) (((H12.trans (Step.up h13)).trans (Step.up h14)).trans h15) hg)
    · have hlt' : decide ((p : Int) < (D.length : Int)) = false := by simpa using hlt
      simp only [hlt', if_false, Bool.false_eq_true]
      have hpl : p = D.length := by omega
      exact after _ m _ t F10 m1 m2 m3 m4 m5 hd10 h10 (by unfold orderAt; rw [takeWhile_at _ _ p (fun j x hj hx => hgo j x hj hx) hp (fun x hx => by rw [hpl, List.getElem?_eq_none (Nat.le_refl _)] at hx; cases hx)])
end
end Mine
end
section
open PySem PySem.W PySem.W.X PyProof.Rows
namespace Mine

/-- a list of lists -/
def Rows (s : Shared) (l : Addr) (xss : List (List Value)) : Prop := ∃ rs : List Addr, IsL s l (rs.map .ref) ∧ rs.length = xss.length ∧ ∀ (k : Nat) (r : Addr) (xs : List Value), rs[k]? = some r → xss[k]? = some xs → IsL s r xs
theorem Rows.step {Y : Addr → Prop} {s s' : Shared} {l : Addr} {xss} (h : Rows s l xss) (hs : Step Y s s') (hy : ∀ b, (∃ o, s.heap.get? b = some o) → ¬ Y b) : Rows s' l xss := by
  obtain ⟨rs, hl, hn, hr⟩ := h
  refine ⟨rs, hl.step hs (hy _ hl.some), hn, fun k r xs h1 h2 => ?_⟩
  have := hr k r xs h1 h2
  exact this.step hs (hy _ this.some)
theorem Rows.step0 {s s' : Shared} {l : Addr} {xss} (h : Rows s l xss) (hs : Step0 s s') : Rows s' l xss := h.step hs fun _ _ q => q

section
variable {prog : Program} {w : World} {A : Around} {s : Shared}
theorem c_joined {l : Addr} {xss : List (List Value)} {Q : Value → Shared → Prop} (R : Rm A 700 1000) (X : (KP w.params).In s.heap) (hl : Rows s l xss) (hz : xss.flatten.length < 1000)
    (k : ∀ r s', Step0 s s' → IsL s' r xss.flatten → s.heap.get? r = none → Q (.ref r) s') :
    wpAny (model prog w) A (call (.ref 400) [.ref l]) Q NoE s := by
  refine call_txt 32 400 (args := ⟨[.ref l], []⟩) (binds := [("rows", .ref l)]) X
    (Nat.lt_of_le_of_lt R.depth (by decide)) (by kernel_rfl) (fun L => List.forall_mem_cons.mpr ⟨.inl (by kernel_rfl), List.forall_mem_nil _⟩)
    (fun L hL s₁ F0 h01 hn => ?_)
  have R1 := R.deeper (EV 32 400 w.params L)
  have F : Run (EV 32 400 w.params L) s _ _ s₁ := ⟨F0, h01, hn⟩
  obtain ⟨rs, hrs0, hlen, hrow0⟩ := hl
  have hrs := hrs0.step0 h01
  have sm : ∀ i, ((xss.take i).flatten).length < 1000 := fun i => Nat.lt_of_le_of_lt (by
    conv => rhs; rw [← List.take_append_drop i xss]
    rw [List.flatten_append, List.length_append]; exact Nat.le_add_right _ _) hz
  refine wpAny_execs_cons (wpAny_Return_some (comp2_rule X F R1.handled (g_ld F (v := .ref l) (by kernel_rfl) (iter_list hrs.is (fun I s₂ hit h2 nI hI4 => ?_) (size_ge (F.K X))))))
  have old : ∀ {b}, (∃ o, s₁.heap.get? b = some o) → b ≠ I := fun {b} ⟨o, e⟩ q => by rw [q, nI] at e; cases e
  have oldh : ∀ {b}, (∃ o, s.heap.get? b = some o) → ¬ Hot (EV 32 400 w.params L) b := fun {b} ⟨o, e⟩ q => by rw [F.new _ q] at e; cases e
  have coldl : ¬ Hot (EV 32 400 w.params L) l := by
    exact oldh hrs0.some
  refine ⟨I, _, _, _, _, fun i m m' => ∃ v, (rs.map Value.ref).toArray[i]? = some v ∧ m' = fun y : Str => if y = "row" then some v else m y, fun y => y == "row", _, rfl, h2, ?_, itr_list R1.handled (old hrs.some).symm.symm hI4, ⟨hit, (hrs.step0 h2).is⟩, ?_, ?_, ?_⟩
  · rintro b rfl; exact nI
  · rintro b (rfl | rfl)
    · exact F.hotAt nI
    · exact coldl
  · exact fun i C => bnd_name (fun v s h => h.1) (by kernel_rfl) (by kernel_rfl)
  · intro Z hZ
    refine ⟨fun i ys s => ys = (xss.take i).flatten, ⟨fun s' h => by simp, fun i ys s s' h _ => h, ?_⟩, ?_⟩
    · rintro i ys C mm m' s₃ hi rfl ⟨v, hv, rfl⟩ R3 hC h23 ex
      obtain ⟨r, hr, rfl⟩ : ∃ r, rs[i]? = some r ∧ v = .ref r := by
        simp at hv
        obtain ⟨r, h, e⟩ := hv
        exact ⟨r, h, e.symm⟩
      obtain ⟨xs, hxs⟩ : ∃ xs, xss[i]? = some xs := by
        have : i < rs.length := (List.getElem?_eq_some_iff.mp hr).1
        exact ⟨xss[i], by simp⟩
      have hr0 := hrow0 i r xs hr hxs
      have hr1 := hr0.step0 h01
      have hZr : ¬ Z r := hZ r (by
        obtain ⟨o, e⟩ := hr1.some
        exact h2.there _ _ e (fun q => q)) (old hr1.some) (oldh hr0.some)
      have hr3 : IsL s₃ r xs := (hr1.step0 h2).step h23 hZr
      unfold Inner
      refine g_ld R3 putN (iter_list hr3.is (fun I2 s₄ hit2 h4 nI2 hI24 => ?_) (size_ge (R3.K X)))
      have nI2' : ∀ {b}, (∃ o, s₃.heap.get? b = some o) → b ≠ I2 := fun {b} ⟨o, e⟩ q => by rw [q, nI2] at e; cases e
      have snoc : ∀ j x, xs[j]? = some x → xs.take (j + 1) = xs.take j ++ [x] := fun j x h => by rw [List.take_add_one, h, Option.toList_some]
      have outer : (xss.take (i + 1)).flatten = (xss.take i).flatten ++ xs := by rw [List.take_add_one, hxs, Option.toList_some, List.flatten_append]; simp
      refine ⟨I2, _, _, _, _, fun i m m' => ∃ v, xs.toArray[i]? = some v ∧ m' = fun y : Str => if y = "one" then some v else m y, _, rfl, h4, ?_, itr_list R1.handled (nI2' hr3.some) hI24, ⟨hit2, (hr3.step0 h4).is⟩, ?_, ?_, ?_, ?_⟩
      · rintro b rfl; exact nI2
      · rintro b (rfl | rfl)
        · intro z
          exact nI2' (ex _ z) rfl
        · exact hZr
      · exact fun i => bnd_name (fun v s h => h.1) (by kernel_rfl) (by kernel_rfl)
      · rintro i m m' ⟨v, _, rfl⟩ y hy
        have : y = "row" := by simpa using hy
        subst this
        exact keepN (m := m) rfl
      · refine ⟨fun j ys s => j ≤ xs.length ∧ ys = (xss.take i).flatten ++ xs.take j, fun j ys s h => ?_, ⟨Nat.zero_le _, by simp⟩, fun j ys s s' h _ => h, ?_, ?_⟩
        · obtain ⟨_, rfl⟩ := h
          refine Nat.lt_of_le_of_lt ?_ (sm (i + 1))
          rw [outer, List.length_append, List.length_append]
          exact Nat.add_le_add_left (List.length_take_le' _ _) _
        · rintro j ys m₂ s₅ hj ⟨_, rfl⟩ ⟨mm, v, hv, rfl⟩ kp R5 h25 ex5
          have hv' : xs[j]? = some v := by simpa using hv
          refine wpAny_tests_nil ⟨Step.refl _ _, ?_⟩
          simp only [if_true]
          refine g_ld R5 putN ⟨Step.refl _ _, ?_, ?_⟩
          · exact (List.getElem?_eq_some_iff.mp hv').1
          · rw [snoc j v hv', List.append_assoc]
        · rintro ys s ⟨_, rfl⟩
          rw [outer]; simp
    · rintro D ys s' rfl hD nD h' hZ'
      refine k D s' (F.since.trans h') ?_ (F.newAt nD)
      have : (rs.map Value.ref).toArray.size = xss.length := by simp [hlen]
      rw [this, List.take_length] at hD
      exact hD
end
end Mine
end
section
open PySem PySem.W PySem.W.X PyProof.Rows
namespace Mine
/-! _law_low -/
local macro_rules | `(tactic| x_close) => `(tactic| (refine Ends.go (by assumption) (by first | assumption | exact Mem.start _) ?_; first | exact ⟨_, rfl⟩ | exact rfl))
abbrev A72 : Around := ⟨none, 720, none, none, 1100⟩
section
variable (prog : Program) (w : World) (s : Shared) (Q : Value → Shared → Prop) (KX : (KP w.params).In s.heap)
include KX
theorem low_i (i : Int) (t : Tok) (b : Bool) (hQ : Ends s (fun v _ => ∃ t, v = .int i t) Q) : wpAny (model prog w) A72 (call (.ref 388) [.int i t, .bool b]) Q NoE s := by x_run
theorem low_a (t : Tok) (b : Bool) (hQ : Ends s (fun v _ => ∃ t, v = .str "a" t) Q) : wpAny (model prog w) A72 (call (.ref 388) [.str "a" t, .bool b]) Q NoE s := by cases b <;> x_run
theorem low_b (t : Tok) (b : Bool) (hQ : Ends s (fun v _ => ∃ t, v = .str "b" t) Q) : wpAny (model prog w) A72 (call (.ref 388) [.str "b" t, .bool b]) Q NoE s := by cases b <;> x_run
theorem low_c (t : Tok) (b : Bool) (hQ : Ends s (fun v _ => ∃ t, v = .str "c" t) Q) : wpAny (model prog w) A72 (call (.ref 388) [.str "c" t, .bool b]) Q NoE s := by cases b <;> x_run
theorem low_A (t : Tok) (hQ : Ends s (fun v _ => ∃ t, v = .str "a" t) Q) : wpAny (model prog w) A72 (call (.ref 388) [.str "A" t, .bool false]) Q NoE s := by x_run
theorem low_B (t : Tok) (hQ : Ends s (fun v _ => ∃ t, v = .str "b" t) Q) : wpAny (model prog w) A72 (call (.ref 388) [.str "B" t, .bool false]) Q NoE s := by x_run
theorem low_C (t : Tok) (hQ : Ends s (fun v _ => ∃ t, v = .str "c" t) Q) : wpAny (model prog w) A72 (call (.ref 388) [.str "C" t, .bool false]) Q NoE s := by x_run
theorem low_A' (t : Tok) (hQ : Ends s (fun v _ => ∃ t, v = .str "A" t) Q) : wpAny (model prog w) A72 (call (.ref 388) [.str "A" t, .bool true]) Q NoE s := by x_run
theorem low_B' (t : Tok) (hQ : Ends s (fun v _ => ∃ t, v = .str "B" t) Q) : wpAny (model prog w) A72 (call (.ref 388) [.str "B" t, .bool true]) Q NoE s := by x_run
theorem low_C' (t : Tok) (hQ : Ends s (fun v _ => ∃ t, v = .str "C" t) Q) : wpAny (model prog w) A72 (call (.ref 388) [.str "C" t, .bool true]) Q NoE s := by x_run
theorem ign_i (i : Int) (t : Tok) (hQ : Ends s (fun v _ => ∃ t, v = .int i t) Q) : wpAny (model prog w) A72 (call (.ref 236) [.int i t]) Q NoE s := by x_run
theorem ign_a (t : Tok) (hQ : Ends s (fun v _ => ∃ t, v = .str "a" t) Q) : wpAny (model prog w) A72 (call (.ref 236) [.str "a" t]) Q NoE s := by x_run
theorem ign_b (t : Tok) (hQ : Ends s (fun v _ => ∃ t, v = .str "b" t) Q) : wpAny (model prog w) A72 (call (.ref 236) [.str "b" t]) Q NoE s := by x_run
theorem ign_c (t : Tok) (hQ : Ends s (fun v _ => ∃ t, v = .str "c" t) Q) : wpAny (model prog w) A72 (call (.ref 236) [.str "c" t]) Q NoE s := by x_run
theorem ign_A (t : Tok) (hQ : Ends s (fun v _ => ∃ t, v = .str "a" t) Q) : wpAny (model prog w) A72 (call (.ref 236) [.str "A" t]) Q NoE s := by x_run
theorem ign_B (t : Tok) (hQ : Ends s (fun v _ => ∃ t, v = .str "b" t) Q) : wpAny (model prog w) A72 (call (.ref 236) [.str "B" t]) Q NoE s := by x_run
theorem ign_C (t : Tok) (hQ : Ends s (fun v _ => ∃ t, v = .str "c" t) Q) : wpAny (model prog w) A72 (call (.ref 236) [.str "C" t]) Q NoE s := by x_run
end
/-- the law's things: ints, or one of six letters -/
def Letter (c : List Nat) : Prop := c = [97] ∨ c = [98] ∨ c = [99] ∨ c = [65] ∨ c = [66] ∨ c = [67]
def IsThing (v : Value) (k : Key) : Prop := IsKey v k ∧ ∀ c, k = .s c → Letter c
def Key.low : Key → Key
  | .i n => .i n
  | .s c => .s (c.map fun x => if 65 ≤ x ∧ x ≤ 90 then x + 32 else x)
def Key.lowIf (b : Bool) (k : Key) : Key := if b then k else k.low
theorem str_of_codes {x : Str} {y : Str} (h : x.cps.toList = y.cps.toList) : x = y := by
  obtain ⟨⟨a⟩⟩ := x
  obtain ⟨⟨b⟩⟩ := y
  simp at h
  rw [h]
section
variable {prog : Program} {w : World} {A : Around} {s : Shared} {Q : Value → Shared → Prop}
theorem c_low {v : Value} {k : Key} {b : Bool} (R : Rm A 720 1100) (X : (KP w.params).In s.heap) (hv : IsThing v k) (h : ∀ r s', Step0 s s' → IsKey r (k.lowIf b) → Q r s') :
    wpAny (model prog w) A (call (.ref 388) [v, .bool b]) Q NoE s := by
  refine R.up ?_
  obtain ⟨hk, hl⟩ := hv
  cases k with
  | i n =>
    obtain ⟨t, rfl⟩ := hk
    refine low_i prog w s Q X n t b ?_
    rintro v s' st ⟨t', rfl⟩
    exact h _ s' st (by cases b <;> exact ⟨t', rfl⟩)
  | s c =>
    obtain ⟨x, t, rfl, hx⟩ := hk
    rcases hl c rfl with rfl | rfl | rfl | rfl | rfl | rfl
    · rw [str_of_codes (y := "a") hx]
      refine low_a prog w s Q X t b ?_
      rintro v s' st ⟨t', rfl⟩
      exact h _ s' st (by cases b <;> exact ⟨_, t', rfl, rfl⟩)
    · rw [str_of_codes (y := "b") hx]
      refine low_b prog w s Q X t b ?_
      rintro v s' st ⟨t', rfl⟩
      exact h _ s' st (by cases b <;> exact ⟨_, t', rfl, rfl⟩)
    · rw [str_of_codes (y := "c") hx]
      refine low_c prog w s Q X t b ?_
      rintro v s' st ⟨t', rfl⟩
      exact h _ s' st (by cases b <;> exact ⟨_, t', rfl, rfl⟩)
    · rw [str_of_codes (y := "A") hx]
      cases b
      · refine low_A prog w s Q X t ?_
        rintro v s' st ⟨t', rfl⟩
        exact h _ s' st ⟨_, t', rfl, rfl⟩
      · refine low_A' prog w s Q X t ?_
        rintro v s' st ⟨t', rfl⟩
        exact h _ s' st ⟨_, t', rfl, rfl⟩
    · rw [str_of_codes (y := "B") hx]
      cases b
      · refine low_B prog w s Q X t ?_
        rintro v s' st ⟨t', rfl⟩
        exact h _ s' st ⟨_, t', rfl, rfl⟩
      · refine low_B' prog w s Q X t ?_
        rintro v s' st ⟨t', rfl⟩
        exact h _ s' st ⟨_, t', rfl, rfl⟩
    · rw [str_of_codes (y := "C") hx]
      cases b
      · refine low_C prog w s Q X t ?_
        rintro v s' st ⟨t', rfl⟩
        exact h _ s' st ⟨_, t', rfl, rfl⟩
      · refine low_C' prog w s Q X t ?_
        rintro v s' st ⟨t', rfl⟩
        exact h _ s' st ⟨_, t', rfl, rfl⟩
/-- ignore_case -/
theorem c_ign {v : Value} {k : Key} (R : Rm A 720 1100) (X : (KP w.params).In s.heap) (hv : IsThing v k) (h : ∀ r s', Step0 s s' → IsKey r k.low → Q r s') :
    wpAny (model prog w) A (call (.ref 236) [v]) Q NoE s := by
  refine R.up ?_
  obtain ⟨hk, hl⟩ := hv
  cases k with
  | i n =>
    obtain ⟨t, rfl⟩ := hk
    refine ign_i prog w s Q X n t ?_
    rintro v s' st ⟨t', rfl⟩
    exact h _ s' st ⟨t', rfl⟩
  | s c =>
    obtain ⟨x, t, rfl, hx⟩ := hk
    rcases hl c rfl with rfl | rfl | rfl | rfl | rfl | rfl
    · rw [str_of_codes (y := "a") hx]
      refine ign_a prog w s Q X t ?_
      rintro v s' st ⟨t', rfl⟩
      exact h _ s' st ⟨_, t', rfl, rfl⟩
    · rw [str_of_codes (y := "b") hx]
      refine ign_b prog w s Q X t ?_
      rintro v s' st ⟨t', rfl⟩
      exact h _ s' st ⟨_, t', rfl, rfl⟩
    · rw [str_of_codes (y := "c") hx]
      refine ign_c prog w s Q X t ?_
      rintro v s' st ⟨t', rfl⟩
      exact h _ s' st ⟨_, t', rfl, rfl⟩
    · rw [str_of_codes (y := "A") hx]
      refine ign_A prog w s Q X t ?_
      rintro v s' st ⟨t', rfl⟩
      exact h _ s' st ⟨_, t', rfl, rfl⟩
    · rw [str_of_codes (y := "B") hx]
      refine ign_B prog w s Q X t ?_
      rintro v s' st ⟨t', rfl⟩
      exact h _ s' st ⟨_, t', rfl, rfl⟩
    · rw [str_of_codes (y := "C") hx]
      refine ign_C prog w s Q X t ?_
      rintro v s' st ⟨t', rfl⟩
      exact h _ s' st ⟨_, t', rfl, rfl⟩
end
end Mine
end
section
open PySem PySem.W PySem.W.X PyProof.Rows
namespace Mine
section
variable {prog : Program} {w : World} {A : Around} {s : Shared}
theorem deeper_lt {env : Env} {d u : Nat} (R : Rm A d u) (h : d < 999 := by decide) : A.depth < recursionLimit := Nat.lt_of_le_of_lt R.depth (Nat.lt_of_lt_of_le h (by decide))
/-- key(row) -/
theorem c_key {f ce r : Addr} {b : Bool} {v : Value} {k : Key} {n : Int} {nm cv ct : Value} {Q : Value → Shared → Prop} (R : Rm A 700 1000) (X : (KP w.params).In s.heap) (hf : IsInner s f (inFd 33 14 "key" "law.<locals>.key" [("exact", ce)] nm cv ct)) (hc : s.heap.IsCell ce (some (.bool b)))
    (hr : IsRow prog w s r v n) (hv : IsThing v k) (h : ∀ r' s', Step0 s s' → IsKey r' (k.lowIf b) → Q r' s') :
    wpAny (model prog w) A (call (.ref f) [.ref r]) Q NoE s := by
  refine call_innerS (args := ⟨[.ref r], []⟩) (binds := [("row", .ref r)]) X (Nat.lt_of_le_of_lt R.depth (by decide)) hf.1 hf.2 (by kernel_rfl) (List.forall_mem_cons.mpr ⟨by kernel_rfl, List.forall_mem_nil _⟩) (fun L hL nL s₁ F => ?_) (body := inBody 33 14)
  have R1 := R.deeper (iEnv (inFd 33 14 "key" "law.<locals>.key" [("exact", ce)] nm cv ct) f L)
  refine wpAny_execs_cons (wpAny_Return_some (Call_ (g_glob F X (.ref 388) (cw_fn (spliced_more (Subscript_ (g_ld F (v := .ref r) (by kernel_rfl) (g_str fun t' s₂ h2 => sub_k ((hr.step0 F.since).step0 h2) (fun s₃ h3 => ?_) rfl))))))))
  have F3 := (F.step0 h2).step0 h3
  refine spliced_more (g_ldf F3 (c := ce) (by kernel_rfl) hc (spliced_none ⟨isFn_K (F3.K X), c_low R1.mono (F3.K X) hv fun r' s₄ h4 hk => ?_⟩))
  exact h r' s₄ (F3.step0 h4).since hk
end
end Mine
end
section
open PySem PySem.W PySem.W.X PyProof.Rows
namespace Mine
section
variable {prog : Program} {w : World} {A : Around} {s : Shared}
/-- ValueEnvironment.getitem on a row -/
theorem c_getitem {wd r : Addr} {v : Value} {n : Int} {t : Tok} {Q : Value → Shared → Prop} (R : Rm A 720 1100) (X : (KP w.params).In s.heap) (hr : IsRow prog w s r v n) (h : ∀ s', Step0 s s' → Q v s') :
    wpAny (model prog w) A (call (.ref 376) [.ref wd, .ref r, .str "k" t]) Q NoE s := by
  refine call_at (meBody 28 1) (meScope 28 1) 376 (args := ⟨[.ref wd, .ref r, .str "k" t], []⟩) (binds := [("self", .ref wd), ("obj", .ref r), ("argument", .str "k" t)]) X
    (Nat.lt_of_le_of_lt R.depth (by decide)) (by kernel_rfl) (fun L => List.forall_mem_cons.mpr ⟨.inl (by kernel_rfl), List.forall_mem_cons.mpr ⟨.inl (by kernel_rfl), List.forall_mem_cons.mpr ⟨.inl (by kernel_rfl), List.forall_mem_nil _⟩⟩⟩)
    (fun L hL s₁ F => ?_)
  refine wpAny_execs_cons (wpAny_Try_except (noE (wpAny_execs_cons (wpAny_Return_some (Subscript_ (g_ld F (v := .ref r) (by kernel_rfl) (g_ld F (v := .str "k" t) (by kernel_rfl) (sub_k (hr.step0 F.since) (fun s₃ h3 => ?_) rfl))))))))
  exact h s₃ (F.step0 h3).since
/-- what a getter finds: under the name k, or the thing itself -/
def Item (prog : Program) (w : World) (s : Shared) (ps : List Value) (item v : Value) : Prop := (ps = [] ∧ item = v) ∨ ∃ t r n, ps = [.str "k" t] ∧ item = .ref r ∧ IsRow prog w s r v n
theorem Item.step0 {s s' : Shared} {ps item v} (h : Item prog w s ps item v) (st : Step0 s s') : Item prog w s' ps item v := h.elim .inl fun ⟨t, r, n, a, b, c⟩ => .inr ⟨t, r, n, a, b, c.step0 st⟩
/-- what follows the getting -/
def Post (b : Bool) : Value := if b then .none else .ref 236
theorem c_post {env : Env} {s₀ : Shared} {m cm} {cc : Addr} {b : Bool} {v : Value} {k : Key} {x : Str} {px1 px2 px3 px4 px5 px6 px7 px8 : Pos} {Q : Flow → Shared → Prop} (R : Rm A 704 1012) (X : (KP w.params).In s₀.heap) (F : Run env s₀ m cm s) (hc : env.cells.lookup ("postprocess" : Str) = some cc) (hcv : s₀.heap.IsCell cc (some (Post b)))
    (hm : m x = some v) (hv : IsThing v k) (h : ∀ m' v' s', Run env s₀ m' cm s' → Step (Hot env) s s' → m' x = some v' → IsKey v' (k.lowIf b) → (∀ y, y ≠ x → m' y = m y) → Q .next s')
    (hk : env.scope.kind = .function := by kernel_rfl) (hp : env.kindOf "postprocess" = some .free := by kernel_rfl) (hx : env.kindOf x = some .local := by kernel_rfl) (hxd : (x == ("__debug__" : Str)) = false := by kernel_rfl) (hxp : (env.scope.kind == .class || (env.scope.kind == .module && env.locals != env.globals)) = false := by kernel_rfl) :
    wpAny (model prog w) A (exec (.If (.Compare (.Name "postprocess" px1) [.IsNot] [.Constant .none 0 px2] px3) [.Assign [.Name x px4] (.Call (.Name "postprocess" px5) [.Name x px6] [] px7) px8] [] px3) env) Q NoE s := by
  refine wpAny_If (wpAny_isTrue_Compare1 (g_ldf F hc hcv (wpAny_Constant_none ?_) hk hp))
  cases b with
  | true =>
    refine isnot_none_none (wpAny_truthy_bool ?_)
    simp only [Bool.false_eq_true, if_false]
    exact wpAny_execs_nil (h m v s F (Step.refl _ _) hm hv.1 fun _ _ => rfl)
  | false =>
    refine isnot_ref_none (wpAny_truthy_bool ?_)
    simp only [if_true]
    refine wpAny_execs_cons (wpAny_Assign_Name (Call_ (g_ldf F hc hcv (cw_fn (spliced_more (g_ld F hm (spliced_none ⟨isFn_K (F.K X), c_ign R.mono (F.K X) hv fun r s₁ h1 hr => ?_⟩) hk hx hxd))) hk hp)))
    refine g_st (F.step0 h1) (fun s₂ F2 h2 => wpAny_execs_nil (h _ r s₂ F2 (h1.up.trans h2) putN hr fun y hy => if_neg hy)) hx hxp
theorem c_attr {f cd ce cp cc wd pl : Addr} {ps : List Value} {b : Bool} {cl : List (Str × Addr)} {item v : Value} {k : Key} {nm cv ct : Value} {Q : Value → Shared → Prop} (R : Rm A 700 1000) (X : (KP w.params).In s.heap) (hf : IsInner s f (inFd 15 1 "attrgetter" "make_attrgetter.<locals>.attrgetter" cl nm cv ct))
    (hd : cl.lookup ("default" : Str) = some cd) (he : cl.lookup ("environment" : Str) = some ce) (hp : cl.lookup ("parts" : Str) = some cp) (hc : cl.lookup ("postprocess" : Str) = some cc)
    (hdv : s.heap.IsCell cd (some .none)) (hev : s.heap.IsCell ce (some (.ref wd))) (hpv : s.heap.IsCell cp (some (.ref pl))) (hcv : s.heap.IsCell cc (some (Post b)))
    (hw : IsWorld s wd) (hps : IsL s pl ps) (hi : Item prog w s ps item v) (hv : IsThing v k) (h : ∀ r' s', Step0 s s' → IsKey r' (k.lowIf b) → Q r' s') :
    wpAny (model prog w) A (call (.ref f) [item]) Q NoE s := by
  refine call_innerS (args := ⟨[item], []⟩) (binds := [("item", item)]) X (Nat.lt_of_le_of_lt R.depth (by decide)) hf.1 hf.2 (by kernel_rfl) (List.forall_mem_cons.mpr ⟨by kernel_rfl, List.forall_mem_nil _⟩) (fun L hL nL s₁ F => ?_) (body := inBody 15 1)
  generalize henv : iEnv (inFd 15 1 "attrgetter" "make_attrgetter.<locals>.attrgetter" cl nm cv ct) f L = env at F ⊢
  have R1 := R.deeper env
  have hz : ps.length ≤ 1 := by rcases hi with ⟨rfl, _⟩ | ⟨_, _, _, rfl, _⟩ <;> simp
  have hpl : ¬ Hot env pl := F.cold hps.some.choose_spec
  refine wpAny_execs_cons (for_rule (g_ldf F (c := cp) (by subst henv; exact hp) hpv (iter_list (hps.step0 F.since).is (fun I s₂ hit h2 nI hI4 => ?_) (size_ge (F.K X))) (by subst henv; kernel_rfl) (by subst henv; kernel_rfl)))
  have F2 := F.step0 h2
  have nIc : ¬ Hot env I := F.hotAt nI
  refine ⟨I, _, _, _, _, _, fun i s' => ∃ m, Run env s m _ s' ∧ m "item" = some (if i = 0 then item else v), rfl, src_list R1.handled nIc hpl (fun e => by rw [← e, (hps.step0 F.since).some.choose_spec] at nI; cases nI) hI4 (by subst henv; kernel_rfl) (by subst henv; kernel_rfl), ⟨hit, (hps.step0 F2.since).is⟩,
    ⟨_, F2, by kernel_rfl⟩, ?turn, ?fin⟩
  case turn =>
    rintro i s₃ hi' ⟨m, F3, hm⟩
    refine ⟨m, _, F3.act, ?_⟩
    rintro m' s₄ ⟨u, hu, rfl⟩ F4' h4 st4
    have F4 : Run env s _ _ s₄ := ⟨F4', (Step.trans F3.since.up h4).new (fun b hb _ => hb.elim (F3.new b) fun e => e ▸ F.newAt nI), F3.new⟩
    rcases hi with ⟨rfl, rfl⟩ | ⟨t, r, n, rfl, rfl, hr⟩
    · exact absurd hi' (by simp)
    have hi0 : i = 0 := by simpa using hi'
    subst hi0
    have hu' : u = .str "k" t := by simpa using hu.symm
    subst hu'
    -- item = environment.getitem(item, part)
    refine wpAny_execs_cons (wpAny_Assign_Name (MethodCall_ (g_ldf F4 (c := ce) (by subst henv; exact he) hev (world_getitem (F4.K X) (hw.step0 F4.since) (cw_fn (spliced_more (g_ld F4 (v := .ref r) (keepN hm) (spliced_more (g_ld F4 (v := .str "k" t) putN (spliced_none ⟨isFn_K (F4.K X), c_getitem R1.mono (F4.K X) (hr.step0 F4.since) fun s₅ h5 => ?_⟩) (by subst henv; kernel_rfl) (by subst henv; kernel_rfl))) (by subst henv; kernel_rfl) (by subst henv; kernel_rfl))))) (by subst henv; kernel_rfl) (by subst henv; kernel_rfl))))
    refine g_st (F4.step0 h5) (fun s₆ F6 h6 => ?_) (by subst henv; kernel_rfl) (by subst henv; kernel_rfl)
    -- if default is not None and ...
    refine wpAny_execs_cons (wpAny_If (isTrue_and (wpAny_isTrue_Compare1 (g_ldf F6 (c := cd) (by subst henv; exact hd) hdv (wpAny_Constant_none (isnot_none_none (wpAny_truthy_bool ?_))) (by subst henv; kernel_rfl) (by subst henv; kernel_rfl)))))
    simp only [Bool.false_eq_true, if_false]
    exact wpAny_execs_nil (wpAny_execs_nil ⟨⟨_, F6, putN⟩, h5.up.trans h6⟩)
  case fin =>
    rintro s₃ s₄ ⟨m, F3, hm⟩ h4
    have F4 := F3.stepX h4 (fun b e => e ▸ nIc) (fun b e => e ▸ F.newAt nI)
    have hm' : m "item" = some v := by
      rcases hi with ⟨rfl, rfl⟩ | ⟨t, r, n, rfl, rfl, hr⟩
      · simpa using hm
      · simpa using hm
    refine wpAny_execs_cons (c_post (x := "item") R1.mono X F4 (by subst henv; exact hc) hcv hm' hv (fun m' v' s₅ F5 h5 hm5 hv5 _ => ?_) (by subst henv; kernel_rfl) (by subst henv; kernel_rfl) (by subst henv; kernel_rfl) (by kernel_rfl) (by subst henv; kernel_rfl))
    exact wpAny_execs_cons (wpAny_Return_some (g_ld F5 hm5 (h v' s₅ F5.since hv5) (by subst henv; kernel_rfl) (by subst henv; kernel_rfl)))
end
end Mine
end
section
open PySem PySem.W PySem.W.X PyProof.Rows
namespace Mine
section
variable {prog : Program} {w : World} {A : Around} {s : Shared}
/-- the inner loop of the getters: item = environment.getitem(item, part) for each part -/
theorem c_mattr {f ce cp cc wd pl p1 : Addr} {ps : List Value} {b : Bool} {cl : List (Str × Addr)} {item v : Value} {k : Key} {nm cv ct : Value} {Q : Value → Shared → Prop} (R : Rm A 700 1000) (X : (KP w.params).In s.heap) (hf : IsInner s f (inFd 16 2 "attrgetter" "make_multi_attrgetter.<locals>.attrgetter" cl nm cv ct))
    (he : cl.lookup ("environment" : Str) = some ce) (hp : cl.lookup ("parts" : Str) = some cp) (hc : cl.lookup ("postprocess" : Str) = some cc)
    (hev : s.heap.IsCell ce (some (.ref wd))) (hpv : s.heap.IsCell cp (some (.ref pl))) (hcv : s.heap.IsCell cc (some (Post b)))
    (hw : IsWorld s wd) (hpl : IsL s pl [.ref p1]) (hps : IsL s p1 ps) (hi : Item prog w s ps item v) (hv : IsThing v k) (h : ∀ r' u s', Step0 s s' → IsL s' r' [u] → IsKey u (k.lowIf b) → s.heap.get? r' = none → Q (.ref r') s') :
    wpAny (model prog w) A (call (.ref f) [item]) Q NoE s := by
  refine call_innerS (args := ⟨[item], []⟩) (binds := [("item", item)]) X (Nat.lt_of_le_of_lt R.depth (by decide)) hf.1 hf.2 (by kernel_rfl) (List.forall_mem_cons.mpr ⟨by kernel_rfl, List.forall_mem_nil _⟩) (fun L hL nL s₁ F => ?_) (body := inBody 16 2)
  generalize henv : iEnv (inFd 16 2 "attrgetter" "make_multi_attrgetter.<locals>.attrgetter" cl nm cv ct) f L = env at F ⊢
  have R1 := R.deeper env
  have hz : ps.length ≤ 1 := by rcases hi with ⟨rfl, _⟩ | ⟨_, _, _, rfl, _⟩ <;> simp
  have hck : env.cells.lookup ("environment" : Str) = some ce := by subst henv; exact he
  have hcp : env.cells.lookup ("parts" : Str) = some cp := by subst henv; exact hp
  have hcc : env.cells.lookup ("postprocess" : Str) = some cc := by subst henv; exact hc
  have hkind : env.scope.kind = .function := by subst henv; kernel_rfl
  have kpo : (env.scope.kind == .class || (env.scope.kind == .module && env.locals != env.globals)) = false := by subst henv; kernel_rfl
  have k1 : env.kindOf "items" = some .local := by subst henv; kernel_rfl
  have k2 : env.kindOf "i" = some .local := by subst henv; kernel_rfl
  have k3 : env.kindOf "attribute_part" = some .local := by subst henv; kernel_rfl
  have k4 : env.kindOf "item_i" = some .local := by subst henv; kernel_rfl
  have k5 : env.kindOf "part" = some .local := by subst henv; kernel_rfl
  have k6 : env.kindOf "item" = some .local := by subst henv; kernel_rfl
  have k7 : env.kindOf "environment" = some .free := by subst henv; kernel_rfl
  have k8 : env.kindOf "parts" = some .free := by subst henv; kernel_rfl
  have k9 : env.kindOf "postprocess" = some .free := by subst henv; kernel_rfl
  have k10 : env.kindOf "len" = some .globalImplicit := by subst henv; kernel_rfl
  have k11 : env.kindOf "enumerate" = some .globalImplicit := by subst henv; kernel_rfl
  have hg : env.globals = mainGlobals := by subst henv; kernel_rfl
  have hb : env.builtins = builtinsNs := by subst henv; kernel_rfl
  have cpl : ¬ Hot env pl := F.cold hpl.some.choose_spec
  have cps : ¬ Hot env p1 := F.cold hps.some.choose_spec
  -- items = [None] * len(parts)
  refine wpAny_execs_cons (wpAny_Assign_Name (wpAny_BinOp (List_ (spliced_more (wpAny_Constant_none (spliced_none (op_newList (by simp) (fun r1 s₂ h2 hr1 nr1 _ => ?_) (size_ge (F.K X)))))))))
  have F2 := F.step0 h2
  refine Call_ (g_built F2 X (.builtin "len") (cw_builtin (spliced_more (g_ldf F2 hcp hpv (spliced_none (op_len R1.mono (hpl.step0 F2.since) (by simp) fun t s₃ h3 => ?_)) hkind k8))) (by kernel_rfl) (by kernel_rfl) hkind k10 hg hb)
  have F3 := F2.step0 h3
  refine op_mulL (hr1.step0 h3) (by simp) (by simp) (by simp) (fun r2 s₄ h4 hr2 nr2 => ?_)
  have F4 := F3.step0 h4
  have hr2 : IsL s₄ r2 [.none] := by simpa using hr2
  refine g_st F4 (fun s₅ F5 h5 => ?_) k1 kpo
  have c2 : ¬ Hot env r2 := F3.hotAt nr2
  have n2 := F3.newAt nr2
  have hr25 := hr2.step h5 c2
  -- for i, attribute_part in enumerate(parts)
  refine wpAny_execs_cons (for_ruleW (Call_ (g_built F5 X (.type "enumerate") (cw_type (spliced_more (g_ldf F5 hcp hpv (spliced_none (op_enum (hpl.step0 F5.since) (size_ge (F5.K X)) fun e it s₆ h6 he6 hit6 nei ne ni e4 i4 => wpAny_pyIter_enum he6 ?_)) hkind k8))) (by kernel_rfl) (by kernel_rfl) hkind k11 hg hb)))
  have F6 := F5.step0 h6
  have ce6 : ¬ Hot env e := F5.hotAt ne
  have ci6 : ¬ Hot env it := F5.hotAt ni
  have ole : ∀ {a}, (∃ o, s.heap.get? a = some o) → a ≠ e := fun ⟨o, h⟩ q => (by have := F5.newAt ne; rw [← q, h] at this; cases this)
  have oli : ∀ {a}, (∃ o, s.heap.get? a = some o) → a ≠ it := fun ⟨o, h⟩ q => (by have := F5.newAt ni; rw [← q, h] at this; cases this)
  have r2e : r2 ≠ e := fun q => (by obtain ⟨o, h⟩ := hr25.some; rw [q, ne] at h; cases h)
  have r2i : r2 ≠ it := fun q => (by obtain ⟨o, h⟩ := hr25.some; rw [q, ni] at h; cases h)
  refine ⟨e, _, _, _, _, _, fun i s' => ∃ m us, Run env s m _ s' ∧ m "item" = some item ∧ m "items" = some (.ref r2) ∧ IsL s' r2 us ∧ (i = 0 → us = [.none]) ∧ (i = 1 → ∃ u, us = [u] ∧ IsKey u (k.lowIf b)), fun b => b = r2, rfl,
    Src.of (itr_enum (items := #[.ref p1]) R1.handled nei (ole hpl.some) (oli hpl.some) e4 i4) (fun b hb => by
      simp only [List.mem_cons, List.not_mem_nil, or_false] at hb
      rcases hb with rfl | rfl | rfl
      · exact ce6
      · exact ci6
      · exact cpl) (fun i => bnd_pair (G := fun p q => (∃ t, p = .int i t) ∧ (#[Value.ref p1] : Array Value)[i]? = some q) R1.handled (fun v s hv => by
        obtain ⟨T, vals, rfl, ⟨t, x, hx, rfl⟩, hT⟩ := hv
        exact ⟨T, _, _, rfl, ⟨⟨t, rfl⟩, hx⟩, hT⟩) k2 k3 kpo), (fun b e d => by
      subst e
      simp only [List.mem_cons, List.not_mem_nil, or_false] at d
      rcases d with d | d | d
      · exact r2e d
      · exact r2i d
      · obtain ⟨o, h⟩ := hpl.some
        rw [← d, n2] at h; cases h),
    ⟨⟨_, he6⟩, hit6, (hpl.step0 F6.since).is⟩, ⟨_, [.none], F6, by kernel_rfl, by kernel_rfl, hr25.step0 h6, fun _ => rfl, fun q => by cases q⟩, ?turn, ?fin⟩
  case fin =>
    rintro s₇ s₈ ⟨m, us, F7, hm1, hm2, hr7, _, hus⟩ h8
    have F8 := F7.stepX h8 (fun b y => by
      simp only [List.mem_cons, List.not_mem_nil, or_false] at y
      rcases y with rfl | rfl
      · exact ce6
      · exact ci6) (fun b y => by
      simp only [List.mem_cons, List.not_mem_nil, or_false] at y
      rcases y with rfl | rfl
      · exact F5.newAt ne
      · exact F5.newAt ni)
    obtain ⟨u, rfl, hu⟩ := hus rfl
    refine wpAny_execs_cons (wpAny_Return_some (g_ld F8 hm2 (h r2 u s₈ F8.since (hr7.step h8 (by simp; exact ⟨r2e, r2i⟩)) hu n2) hkind k1))
  case turn =>
    rintro i s₇ hi' ⟨m, us, F7, hm1, hm2, hr7, hus, _⟩
    refine ⟨m, _, F7.act, ?_⟩
    rintro m' s₈ ⟨p, q, ⟨⟨t, rfl⟩, hq⟩, b1, b2, bk⟩ F8' h8 st8
    have hi0 : i = 0 := by simpa using hi'
    subst hi0
    obtain rfl := hus rfl
    have hq' : q = .ref p1 := by simpa using hq.symm
    subst hq'
    have F8 : Run env s _ _ s₈ := ⟨F8', (Step.trans F7.since.up h8).new (fun b hb _ => hb.elim (F7.new b) fun y => by
      simp only [List.mem_cons, List.not_mem_nil, or_false] at y
      rcases y with rfl | rfl
      · exact F5.newAt ne
      · exact F5.newAt ni), F7.new⟩
    have hr8 := hr7.step h8 (fun q => q.elim c2 (by simp; exact ⟨r2e, r2i⟩))
    have m8 : m' "item" = some item := (bk _ (by decide) (by decide)).trans hm1
    have m8' : m' "items" = some (.ref r2) := (bk _ (by decide) (by decide)).trans hm2
    -- item_i = item
    refine wpAny_execs_cons (wpAny_Assign_Name (g_ld F8 (v := item) m8 (g_st F8 (fun s₉ F9 h9 => ?_) k4 kpo) hkind k6))
    have hr9 := hr8.step h9 c2
    -- for part in attribute_part
    refine wpAny_execs_cons (for_rule (g_ld F9 (v := .ref p1) (keepN b2) (iter_list (hps.step0 F9.since).is (fun I s₁₀ hit h10 nI hI4 => ?_) (size_ge (F9.K X))) hkind k3))
    have F10 := F9.step0 h10
    have nIc : ¬ Hot env I := F9.hotAt nI
    have nI8 : s₈.heap.get? I = none := by
      cases e : s₈.heap.get? I with
      | none => rfl
      | some o =>
        obtain ⟨o', e'⟩ := h9.there I o e nIc
        rw [nI] at e'; cases e'
    have r2I : r2 ≠ I := fun q => (by obtain ⟨o, h⟩ := hr9.some; rw [q, nI] at h; cases h)
    refine ⟨I, _, _, _, _, _, fun j s' => ∃ m, Run env s m _ s' ∧ m "item" = some item ∧ m "items" = some (.ref r2) ∧ m "i" = some (.int (0 : Nat) t) ∧ m "item_i" = some (if j = 0 then item else v) ∧ IsL s' r2 [.none] ∧ Step (Hot env) s₈ s', rfl, src_list R1.handled nIc cps (fun e => by rw [← e, (hps.step0 F9.since).some.choose_spec] at nI; cases nI) hI4 k5 kpo, ⟨hit, (hps.step0 F10.since).is⟩,
      ⟨_, F10, keepN m8, keepN m8', keepN b1, putN, hr9.step0 h10, h9.trans h10.up⟩, ?turn2, ?fin2⟩
    case turn2 =>
      rintro j s₁₁ hj ⟨m, F11, q1, q2, q3, q4, hr11, h8_11⟩
      refine ⟨m, _, F11.act, ?_⟩
      rintro m' s₁₂ ⟨u, hu, rfl⟩ F12' h12 st12
      have F12 : Run env s _ _ s₁₂ := ⟨F12', (Step.trans F11.since.up h12).new (fun b hb _ => hb.elim (F11.new b) fun e => e ▸ F9.newAt nI), F11.new⟩
      rcases hi with ⟨rfl, rfl⟩ | ⟨tk, r, n, rfl, rfl, hr⟩
      · exact absurd hj (by simp)
      have hj0 : j = 0 := by simpa using hj
      subst hj0
      have hu' : u = .str "k" tk := by simpa using hu.symm
      subst hu'
      refine wpAny_execs_cons (wpAny_Assign_Name (MethodCall_ (g_ldf F12 hck hev (world_getitem (F12.K X) (hw.step0 F12.since) (cw_fn (spliced_more (g_ld F12 (v := .ref r) (keepN q4) (spliced_more (g_ld F12 (v := .str "k" tk) putN (spliced_none ⟨isFn_K (F12.K X), c_getitem R1.mono (F12.K X) (hr.step0 F12.since) fun s₁₃ h13 => ?_⟩) hkind k5)) hkind k4)))) hkind k7)))
      refine g_st (F12.step0 h13) (fun s₁₄ F14 h14 => ?_) k4 kpo
      have q1' : (fun y : Str => if y = "part" then some (Value.str "k" tk) else m y) "item" = some (.ref r) := keepN q1
      have q2' : (fun y : Str => if y = "part" then some (Value.str "k" tk) else m y) "items" = some (.ref r2) := keepN q2
      have q3' : (fun y : Str => if y = "part" then some (Value.str "k" tk) else m y) "i" = some (.int (0 : Nat) t) := keepN q3
      refine wpAny_execs_nil ⟨⟨_, F14, keepN q1', keepN q2', keepN q3', putN, ((hr11.step h12 (fun q => q.elim c2 r2I)).step0 h13).step h14 c2, ?_⟩, h13.up.trans h14⟩
      exact (((h8_11.mono fun b e => Or.inl e).trans h12).new fun b hb nh => hb.elim (fun e => absurd e nh) fun e => e ▸ nI8).trans (h13.up.trans h14)
    case fin2 =>
      rintro s₁₁ s₁₂ ⟨m, F11, q1, q2, q3, q4, hr11, h8_11⟩ h12
      have F12 := F11.stepX h12 (fun b e => e ▸ nIc) (fun b e => e ▸ F9.newAt nI)
      have hr12 := hr11.step h12 r2I
      have q4' : m "item_i" = some v := by
        rcases hi with ⟨rfl, rfl⟩ | ⟨t, r, n, rfl, rfl, hr⟩
        · simpa using q4
        · simpa using q4
      refine wpAny_execs_cons (c_post (x := "item_i") R1.mono X F12 hcc hcv q4' hv (fun m' v' s₁₃ F13 h13 hm5 hv5 keep => ?_) hkind k9 k4 (by kernel_rfl) kpo)
      have hr13 := hr12.step h13 c2
      have q2' : m' "items" = some (.ref r2) := by rw [keep _ (by decide)]; exact q2
      have q3' : m' "i" = some (.int (0 : Nat) t) := by rw [keep _ (by decide)]; exact q3
      have q1' : m' "item" = some item := by rw [keep _ (by decide)]; exact q1
      refine wpAny_execs_cons (wpAny_Assign_Subscript (g_ld F13 hm5 (g_ld F13 q2' (g_ld F13 q3' (op_setL hr13 (by simp) (by simp) fun s₁₄ hr14 h14 => ?_) hkind k2) hkind k1) hkind k4))
      have F14 := F13.stepX h14 (fun b e => e ▸ c2) (fun b e => e ▸ n2)
      refine wpAny_execs_nil ⟨⟨m', _, F14, q1', q2', hr14, (fun q => by cases q), fun _ => ⟨v', rfl, hv5⟩⟩, ?_⟩
      refine Step.trans (((Step.trans (X := fun b => Hot env b ∨ b = I) (h8_11.mono fun b e => .inl e) (h12.mono fun b e => .inr e)).trans (h13.mono fun b e => .inl e)).new fun b hb nh => hb.elim (fun e => absurd (.inl e) nh) fun e => e ▸ nI8) (h14.mono fun b e => .inr e)
end
end Mine
end
section
open PySem PySem.W PySem.W.X PyProof.Rows
namespace Mine
def noEx : Expr := .Constant .none 0 ⟨0, 0, 0, 0⟩
def argAt (e : Expr) (i : Nat) : Expr := match e with
  | .Call _ as _ _ => as.getD i noEx
  | _ => noEx
def lawLam (i : Nat) : Expr := match inAt 33 i with
  | .Assign _ v _ => argAt v 1
  | .If (.Compare _ _ (r :: _) _) _ _ _ => argAt r 1
  | _ => noEx
def lamPar (e : Expr) : Arguments := match e with
  | .Lambda a _ _ _ => a
  | _ => ⟨[], [], none, [], [], none, []⟩
def lamBody (e : Expr) : Expr := match e with
  | .Lambda _ b _ _ => b
  | _ => noEx
def lamScope (e : Expr) : Scope := match e with
  | .Lambda _ _ sc _ => sc
  | _ => default
def lamFd (i : Nat) (cl : List (Str × Addr)) (nm cv ct : Value) : FuncData := fdOf "<lambda>" "law.<locals>.<lambda>" (lamPar (lawLam i)) (.expr (lamBody (lawLam i))) (lamScope (lawLam i)) cl nm cv ct
section
variable {prog : Program} {w : World} {A : Around} {s : Shared}
theorem sub_tup {value slice : Expr} {l : Addr} {vs : List Value} {k : Nat} {t : Tok} {v : Value} {Q : Value → Shared → Prop} (h : IsT s l vs) (hx : vs[k]? = some v) (hz : vs.length ≤ 1000) (hq : Q v s)
    (hs : subscripted slice false (.ref l) (.int k t) = operate [.int k t, .ref l] (getItem (.ref l) (.int k t))) :
    wpAny (model prog w) A (subscriptTail value slice (.ref l) (.int k t)) Q NoE s := by
  have hk : k < vs.length := (List.getElem?_eq_some_iff.mp hx).1
  have ht : IsTup s.heap l vs.toArray := ⟨_, h, rfl, 0, rfl⟩
  exact tail_any ht.typeIs slot_tuple_getitem.lookup (getItem_tuple ht (by omega) (by omega) (j := k) (seqIndex_of (by omega) (by simp; omega)) (by simpa using hx) hq) hs
/-- lambda row: row['n'] -/
theorem c_lam_n {f r : Addr} {v : Value} {n : Int} {nm cv ct : Value} {Q : Value → Shared → Prop} (R : Rm A 700 1000) (X : (KP w.params).In s.heap) (hf : IsInner s f (lamFd 24 [] nm cv ct)) (hr : IsRow prog w s r v n) (h : ∀ t s', Step0 s s' → Q (.int n t) s') :
    wpAny (model prog w) A (call (.ref f) [.ref r]) Q NoE s := by
  refine call_innerE (args := ⟨[.ref r], []⟩) (binds := [("row", .ref r)]) X (Nat.lt_of_le_of_lt R.depth (by decide)) hf.1 hf.2 (by kernel_rfl) (List.forall_mem_cons.mpr ⟨by kernel_rfl, List.forall_mem_nil _⟩) (fun L hL nL s₁ F => ?_) (body := lamBody (lawLam 24))
  exact Subscript_ (g_ld F (v := .ref r) (by kernel_rfl) (g_str fun t' s₂ h2 => sub_n ((hr.step0 F.since).step0 h2) (fun t s₃ h3 => h t s₃ ((F.step0 h2).step0 h3).since) rfl))
/-- lambda pair: _law_low(pair[0], exact) -/
theorem c_lam_0 {f ce r : Addr} {b : Bool} {v u : Value} {k : Key} {nm cv ct : Value} {Q : Value → Shared → Prop} (R : Rm A 700 1000) (X : (KP w.params).In s.heap) (hf : IsInner s f (lamFd 29 [("exact", ce)] nm cv ct)) (hc : s.heap.IsCell ce (some (.bool b)))
    (hr : IsT s r [v, u]) (hv : IsThing v k) (h : ∀ r' s', Step0 s s' → IsKey r' (k.lowIf b) → Q r' s') :
    wpAny (model prog w) A (call (.ref f) [.ref r]) Q NoE s := by
  refine call_innerE (args := ⟨[.ref r], []⟩) (binds := [("pair", .ref r)]) X (Nat.lt_of_le_of_lt R.depth (by decide)) hf.1 hf.2 (by kernel_rfl) (List.forall_mem_cons.mpr ⟨by kernel_rfl, List.forall_mem_nil _⟩) (fun L hL nL s₁ F => ?_) (body := lamBody (lawLam 29))
  have R1 := R.deeper (iEnv (lamFd 29 [("exact", ce)] nm cv ct) f L)
  refine Call_ (g_glob F X (.ref 388) (cw_fn (spliced_more (Subscript_ (g_ld F (v := .ref r) (by kernel_rfl) (g_int fun t' s₂ h2 => sub_tup (k := 0) ((hr.step0 F.since).step0 h2) rfl (by simp) ?_ rfl))))))
  have F3 := F.step0 h2
  exact spliced_more (g_ldf F3 (c := ce) (by kernel_rfl) hc (spliced_none ⟨isFn_K (F3.K X), c_low R1.mono (F3.K X) hv fun r' s₄ h4 hk => h r' s₄ (F3.step0 h4).since hk⟩))
/-- lambda pair: pair[1] -/
theorem c_lam_1 {f r : Addr} {v u : Value} {nm cv ct : Value} {Q : Value → Shared → Prop} (R : Rm A 700 1000) (X : (KP w.params).In s.heap) (hf : IsInner s f (lamFd 30 [] nm cv ct)) (hr : IsT s r [v, u]) (h : ∀ s', Step0 s s' → Q u s') :
    wpAny (model prog w) A (call (.ref f) [.ref r]) Q NoE s := by
  refine call_innerE (args := ⟨[.ref r], []⟩) (binds := [("pair", .ref r)]) X (Nat.lt_of_le_of_lt R.depth (by decide)) hf.1 hf.2 (by kernel_rfl) (List.forall_mem_cons.mpr ⟨by kernel_rfl, List.forall_mem_nil _⟩) (fun L hL nL s₁ F => ?_) (body := lamBody (lawLam 30))
  exact Subscript_ (g_ld F (v := .ref r) (by kernel_rfl) (g_int fun t' s₂ h2 => sub_tup (k := 1) ((hr.step0 F.since).step0 h2) rfl (by simp) (h s₂ (F.step0 h2).since) rfl))
/-- do_dictsort's sort_func -/
theorem c_sortf {f cc cp r : Addr} {b : Bool} {v u x : Value} {k : Key} {p : Nat} {tp : Tok} {nm cv ct : Value} {cl : List (Str × Addr)} {Q : Value → Shared → Prop} (R : Rm A 700 1000) (X : (KP w.params).In s.heap) (hf : IsInner s f (inFd 18 1 "sort_func" "do_dictsort.<locals>.sort_func" cl nm cv ct))
    (h1 : cl.lookup ("case_sensitive" : Str) = some cc) (h2 : cl.lookup ("pos" : Str) = some cp) (hc : s.heap.IsCell cc (some (.bool b))) (hp : s.heap.IsCell cp (some (.int p tp)))
    (hr : IsT s r [v, u]) (hx : [v, u][p]? = some x) (hv : IsThing x k) (h : ∀ r' s', Step0 s s' → IsKey r' (k.lowIf b) → Q r' s') :
    wpAny (model prog w) A (call (.ref f) [.ref r]) Q NoE s := by
  refine call_innerS (args := ⟨[.ref r], []⟩) (binds := [("item", .ref r)]) X (Nat.lt_of_le_of_lt R.depth (by decide)) hf.1 hf.2 (by kernel_rfl) (List.forall_mem_cons.mpr ⟨by kernel_rfl, List.forall_mem_nil _⟩) (fun L hL nL s₁ F => ?_) (body := inBody 18 1)
  have R1 := R.deeper (iEnv (inFd 18 1 "sort_func" "do_dictsort.<locals>.sort_func" cl nm cv ct) f L)
  refine wpAny_execs_cons (wpAny_Assign_Name (Subscript_ (g_ld F (v := .ref r) (by kernel_rfl) (g_ldf F (c := cp) h2 hp (sub_tup (hr.step0 F.since) hx (by simp) (g_st F fun s₂ F2 h3 => ?_) rfl)))))
  refine wpAny_execs_cons (wpAny_If (isTrue_not (isTrue_plain (g_ldf F2 (c := cc) h1 hc (wpAny_truthy_bool ?_)))))
  cases b with
  | true =>
    simp only [Bool.not_true, Bool.false_eq_true, if_false]
    exact wpAny_execs_nil (wpAny_execs_cons (wpAny_Return_some (g_ld F2 (v := x) (by kernel_rfl) (h x s₂ F2.since hv.1))))
  | false =>
    simp only [Bool.not_false, if_true]
    refine wpAny_execs_cons (wpAny_Assign_Name (Call_ (g_glob F2 X (.ref 236) (cw_fn (spliced_more (g_ld F2 (v := x) (by kernel_rfl) (spliced_none ⟨isFn_K (F2.K X), c_ign R1.mono (F2.K X) hv fun r' s₃ h4 hr' => ?_⟩)))))))
    refine g_st (F2.step0 h4) fun s₄ F4 h5 => ?_
    exact wpAny_execs_nil (wpAny_execs_cons (wpAny_Return_some (g_ld F4 (v := r') (by kernel_rfl) (h r' s₄ F4.since hr'))))
end
end Mine
end
section
open PySem PySem.W PySem.W.X PyProof.Rows
namespace Mine
abbrev A65 : Around := ⟨none, 650, none, none, 950⟩
theorem Mem.at3 {h₀ h : Heap} {a : Addr} {o : Obj} {p q r} {news : List (Addr × Obj)} (D : Mem h₀ h [] (p :: q :: r :: (a, o) :: news)) : h.get? a = some o := D.at 3 a o rfl
theorem Mem.new3 {h₀ h : Heap} {a : Addr} {o : Obj} {p q r} {news : List (Addr × Obj)} (D : Mem h₀ h [] (p :: q :: r :: (a, o) :: news)) : h₀.get? a = none := (D.nw _ (.tail _ (.tail _ (.tail _ (.head _))))).2
local macro_rules | `(tactic| x_close) => `(tactic| (refine Ends.go (by assumption) (by first | assumption | exact Mem.start _) ?_; first | exact ⟨_, rfl, ⟨_, Mem.at0 (by assumption)⟩, Mem.new0 (by assumption)⟩ | exact ⟨_, rfl, ⟨_, Mem.at1 (by assumption)⟩, Mem.new1 (by assumption)⟩ | exact ⟨_, _, rfl, ⟨_, Mem.at3 (by assumption)⟩, Mem.new3 (by assumption)⟩))
theorem prep_none (prog : Program) (w : World) (s : Shared) (Q : Value → Shared → Prop) (KX : (KP w.params).In s.heap) (hQ : Ends s (fun v s' => ∃ r, v = .ref r ∧ IsL s' r [] ∧ s.heap.get? r = none) Q) :
    wpAny (model prog w) A65 (call (.ref 255) [.none]) Q NoE s := by x_run
theorem prep_k (prog : Program) (w : World) (s : Shared) (Q : Value → Shared → Prop) (KX : (KP w.params).In s.heap) (t : Tok) (hQ : Ends s (fun v s' => ∃ r t, v = .ref r ∧ IsL s' r [.str "k" t] ∧ s.heap.get? r = none) Q) :
    wpAny (model prog w) A65 (call (.ref 255) [.str "k" t]) Q NoE s := by x_run
/-- an attribute of the law: none, or the name k -/
def IsAttr (v : Value) (k : Bool) : Prop := (v = .none ∧ k = false) ∨ ∃ t, v = .str "k" t ∧ k = true
/-- the parts of it -/
def IsParts (ps : List Value) (k : Bool) : Prop := (ps = [] ∧ k = false) ∨ ∃ t, ps = [.str "k" t] ∧ k = true
theorem c_prep {prog : Program} {w : World} {A : Around} {s : Shared} {v : Value} {k : Bool} {Q : Value → Shared → Prop} (R : Rm A 650 950) (X : (KP w.params).In s.heap) (hv : IsAttr v k) (h : ∀ r ps s', Step0 s s' → IsL s' r ps → IsParts ps k → s.heap.get? r = none → Q (.ref r) s') :
    wpAny (model prog w) A (call (.ref 255) [v]) Q NoE s := by
  refine R.up ?_
  rcases hv with ⟨rfl, rfl⟩ | ⟨t, rfl, rfl⟩
  · refine prep_none prog w s Q X ?_
    rintro v s' st ⟨r, rfl, hr, hn⟩
    exact h r [] s' st hr (.inl ⟨rfl, rfl⟩) hn
  · refine prep_k prog w s Q X t ?_
    rintro v s' st ⟨r, t', rfl, hr, hn⟩
    exact h r _ s' st hr (.inr ⟨t', rfl, rfl⟩) hn
end Mine
end
section
open PySem PySem.W PySem.W.X PyProof.Rows
namespace Mine
noncomputable def recAt (P : Params) (c : Addr) : Array Value := match (objAt P c).data with
  | .fields vs => vs
  | _ => #[]
theorem hd_K {P : Params} {s : Shared} {c T : Addr} (X : (KP P).In s.heap) (e : (KP P).lookup c = some (objAt P c) := by kernel_rfl) (cl : (objAt P c).cls = .type "code" := by kernel_rfl) (d : (objAt P c).data = .fields (recAt P c) := by kernel_rfl) (k : hdOk (recAt P c) T = true := by kernel_rfl) (n : c ≠ T := by decide) : CodeHd s.heap c T :=
  hd_of (X _ _ e) cl d k n
noncomputable def celA (k a : Nat) (P : Params) (L : Addr) (x : Str) : Addr := ((EV k a P L).cells.lookup x).getD 0
theorem cell_at {env : Env} {s₀ s : Shared} {m cm} (x : Str) {c : Addr} {v : Value} (F : Run env s₀ m cm s) (hv : cm x = some v) (hc : env.cells.lookup x = some c := by kernel_rfl) (hk : env.kindOf x = some .cell := by kernel_rfl) : s.heap.IsCell c (some v) := hv ▸ F.act.cell x c ⟨hc, hk⟩
/-- a code object is no frame, no cell -/
theorem Run.code {env : Env} {s₀ s : Shared} {m cm} (F : Run env s₀ m cm s) {c : Addr} {o : Obj} (e : s.heap.get? c = some o) (cl : o.cls = .type "code") (d : ∃ vs, o.data = .fields vs) : ¬ Hot env c := by
  rintro (rfl | ⟨n, h⟩)
  · obtain ⟨o', es, ep, e', d', _⟩ := F.act.ns
    obtain ⟨vs, d⟩ := d
    rw [e] at e'; cases e'; rw [d] at d'; cases d'
  · obtain ⟨o', e', d'⟩ := F.act.cell n c h
    obtain ⟨vs, d⟩ := d
    rw [e] at e'; cases e'; rw [d] at d'; cases d'
theorem IsInner.hot {env : Env} {s₀ s s' : Shared} {m cm} {f : Addr} {fd : FuncData} (F : Run env s₀ m cm s) (x : IsInner s f fd) (n : ¬ Hot env f) (h : Step (Hot env) s s') : IsInner s' f fd :=
  ⟨h.keep _ _ x.1 rfl n, let ⟨c, oc, vs, t, e, g, cl, d, v⟩ := x.2; ⟨c, oc, vs, t, e, h.keep _ _ g (by unfold isTab; rw [cl]) (F.code g cl ⟨vs, d⟩), cl, d, v⟩⟩
/-- what make_attrgetter gives -/
def Getter (s : Shared) (f wd : Addr) (b k : Bool) : Prop := ∃ (cl : List (Str × Addr)) (nm cv ct : Value) (cd ce cp cc pl : Addr) (ps : List Value), IsInner s f (inFd 15 1 "attrgetter" "make_attrgetter.<locals>.attrgetter" cl nm cv ct) ∧
  cl.lookup ("default" : Str) = some cd ∧ cl.lookup ("environment" : Str) = some ce ∧ cl.lookup ("parts" : Str) = some cp ∧ cl.lookup ("postprocess" : Str) = some cc ∧
  s.heap.IsCell cd (some .none) ∧ s.heap.IsCell ce (some (.ref wd)) ∧ s.heap.IsCell cp (some (.ref pl)) ∧ s.heap.IsCell cc (some (Post b)) ∧ IsL s pl ps ∧ IsParts ps k
theorem Getter.step0 {s s' : Shared} {f wd b k} (h : Getter s f wd b k) (st : Step0 s s') : Getter s' f wd b k :=
  let ⟨cl, nm, cv, ct, cd, ce, cp, cc, pl, ps, a, b1, b2, b3, b4, c1, c2, c3, c4, d, e⟩ := h
  ⟨cl, nm, cv, ct, cd, ce, cp, cc, pl, ps, a.step0 st, b1, b2, b3, b4, isCell_step0 c1 st, isCell_step0 c2 st, isCell_step0 c3 st, isCell_step0 c4 st, d.step0 st, e⟩
section
variable {prog : Program} {w : World} {A : Around} {s : Shared}
/-- what is got of: the row, or the thing itself -/
def IsItem (prog : Program) (w : World) (s : Shared) (k : Bool) (item v : Value) : Prop := (k = false ∧ item = v) ∨ (k = true ∧ ∃ r n, item = .ref r ∧ IsRow prog w s r v n)
theorem IsItem.step0 {s s' : Shared} {k item v} (h : IsItem prog w s k item v) (st : Step0 s s') : IsItem prog w s' k item v := h.elim .inl fun ⟨a, r, n, e, q⟩ => .inr ⟨a, r, n, e, q.step0 st⟩
theorem IsItem.item {s : Shared} {k item v ps} (h : IsItem prog w s k item v) (hp : IsParts ps k) : Item prog w s ps item v := by
  rcases h with ⟨rfl, rfl⟩ | ⟨rfl, r, n, rfl, q⟩
  · rcases hp with ⟨rfl, _⟩ | ⟨_, _, e⟩
    · exact .inl ⟨rfl, rfl⟩
    · cases e
  · rcases hp with ⟨_, e⟩ | ⟨t, rfl, _⟩
    · cases e
    · exact .inr ⟨t, r, n, rfl, rfl, q⟩
theorem c_getter {f wd : Addr} {b kk : Bool} {item v : Value} {k : Key} {Q : Value → Shared → Prop} (R : Rm A 700 1000) (X : (KP w.params).In s.heap) (hf : Getter s f wd b kk) (hw : IsWorld s wd) (hi : IsItem prog w s kk item v) (hv : IsThing v k)
    (h : ∀ r' s', Step0 s s' → IsKey r' (k.lowIf b) → Q r' s') : wpAny (model prog w) A (call (.ref f) [item]) Q NoE s := by
  obtain ⟨cl, nm, cv, ct, cd, ce, cp, cc, pl, ps, a, b1, b2, b3, b4, c1, c2, c3, c4, d, e⟩ := hf
  exact c_attr R X a b1 b2 b3 b4 c1 c2 c3 c4 hw d (hi.item e) hv h
theorem c_make {wd : Addr} {b kk : Bool} {av : Value} {args : Args} {Q : Value → Shared → Prop} (R : Rm A 640 940) (X : (KP w.params).In s.heap) (TB : TabsOk s.heap) (ha : IsAttr av kk)
    (hbind : peek (KP w.params) ⟨prog, w.params⟩ (bindArgs (fdAt w.params 244) args) = some [(("environment" : Str), Value.ref wd), ("attribute", av), ("postprocess", Post b), ("default", .none)])
    (h : ∀ f s', Step0 s s' → (∀ (X : Addr → Prop) s'', (∀ b, X b → ∃ o, s.heap.get? b = some o ∧ ∀ vs, o.data ≠ .fields vs) → Step X s' s'' → Getter s'' f wd b kk) → s.heap.get? f = none → Q (.ref f) s') :
    wpAny (model prog w) A (call (.ref 244) args.pos args.kw) Q NoE s := by
  refine call_txt 15 244 X (Nat.lt_of_le_of_lt R.depth (by decide)) hbind (fun L => List.forall_mem_cons.mpr ⟨.inr ⟨by kernel_rfl, by kernel_rfl⟩, List.forall_mem_cons.mpr ⟨.inl (by kernel_rfl), List.forall_mem_cons.mpr ⟨.inr ⟨by kernel_rfl, by kernel_rfl⟩, List.forall_mem_cons.mpr ⟨.inr ⟨by kernel_rfl, by kernel_rfl⟩, List.forall_mem_nil _⟩⟩⟩⟩)
    (fun L hL s₁ F0 h01 hn => ?_)
  have R1 := R.deeper (EV 15 244 w.params L)
  have F : Run (EV 15 244 w.params L) s _ _ s₁ := ⟨F0, h01, hn⟩
  refine wpAny_execs_cons (wpAny_Assign_Name (Call_ (g_glob F X (.ref 255) (cw_fn (spliced_more (g_ld F (v := av) (by kernel_rfl) (spliced_none ⟨isFn_K (F.K X), c_prep R1.mono (F.K X) ha fun pl ps s₂ h2 hpl hps npl => ?_⟩)))))))
  have F2 := F.step0 h2
  refine g_stc F2 (c := celA 15 244 w.params L "parts") (by kernel_rfl) fun s₃ F3 h3 => ?_
  have hpl3 : IsL s₃ pl ps := hpl.step h3 (F.hotAt npl)
  refine wpAny_execs_cons (def_at 15 1 244 (p := ⟨239, 104, 4, "make_attrgetter.<locals>.attrgetter"⟩) (name := "attrgetter") (bind := "attrgetter") (c := 243) rfl X F3 (F3.since.tab TB) (List.mem_of_getElem? (i := 0) rfl) ⟨_, _, by rfl, by rfl, by rfl⟩ (by kernel_rfl) (by kernel_rfl) (by kernel_rfl) (by kernel_rfl) (hd_K (F3.K X)) fun f cv ct nm s₄ h4 hf nf => ?_)
  have F4 := F3.step0 h4
  refine g_st F4 fun s₅ F5 h5 => ?_
  have nf0 := F3.newAt nf
  refine wpAny_execs_cons (wpAny_Return_some (g_ld F5 (v := .ref f) putN (h f s₅ F5.since ?_ nf0)))
  intro X' s6 hX h6
  have nw : ∀ b, s.heap.get? b = none → ¬ X' b := fun b e x => by
    obtain ⟨o, e', _⟩ := hX b x
    rw [e] at e'; cases e'
  have hf5 := hf.hot F4 (F3.hotAt nf) h5
  have cell : ∀ (x : Str) (v : Value), (EV 15 244 w.params L).kindOf x = some .cell → (EV 15 244 w.params L).cells.lookup x = some (celA 15 244 w.params L x) → s₅.heap.IsCell (celA 15 244 w.params L x) (some v) → s6.heap.IsCell (celA 15 244 w.params L x) (some v) := fun x v hk hc q =>
    isCell_stepX q h6 (nw _ (hn _ (.inr ⟨x, hc, hk⟩)))
  refine ⟨_, nm, cv, ct, celA 15 244 w.params L "default", celA 15 244 w.params L "environment", celA 15 244 w.params L "parts", celA 15 244 w.params L "postprocess", pl, ps, ⟨h6.keep _ _ hf5.1 rfl (nw _ nf0), ?_⟩, by kernel_rfl, by kernel_rfl, by kernel_rfl, by kernel_rfl,
    cell _ _ (by kernel_rfl) (by kernel_rfl) (cell_at "default" F5 (by kernel_rfl)), cell _ _ (by kernel_rfl) (by kernel_rfl) (cell_at "environment" F5 (by kernel_rfl)), cell _ _ (by kernel_rfl) (by kernel_rfl) (cell_at "parts" F5 (by kernel_rfl)), cell _ _ (by kernel_rfl) (by kernel_rfl) (cell_at "postprocess" F5 (by kernel_rfl)),
    ((hpl3.step0 h4).step h5 (F.hotAt npl)).step h6 (nw _ (F.newAt npl)), hps⟩
  obtain ⟨c, oc, vs, t, e, g, cl, d, v⟩ := hf5.2
  refine ⟨c, oc, vs, t, e, h6.keep _ _ g (by unfold isTab; rw [cl]) (fun x => ?_), cl, d, v⟩
  obtain ⟨o, e', nd⟩ := hX c x
  have := F5.since.at e' (by
    unfold isTab
    split
    · rename_i q1 q2; exact absurd q2 (nd _)
    · rfl)
  rw [g] at this
  cases this
  exact nd _ d
end
end Mine
end
section
open PySem PySem.W PySem.W.X PyProof.Rows
namespace Mine
local macro_rules | `(tactic| x_close) => `(tactic| (refine Ends.go (by assumption) (by first | assumption | exact Mem.start _) ?_; first | exact rfl | exact ⟨_, _, rfl, ⟨_, Mem.at0 (by assumption)⟩, Mem.new0 (by assumption)⟩ | exact ⟨_, _, rfl, ⟨_, Mem.at1 (by assumption)⟩, Mem.new1 (by assumption)⟩))
theorem inst_none (prog : Program) (w : World) (s : Shared) (Q : Value → Shared → Prop) (hQ : Ends s (fun v s' => v = .bool false) Q) :
    wpAny (model prog w) A9 (call (.builtin "isinstance") [.none, .type "str"]) Q NoE s := by x_run
theorem inst_str (prog : Program) (w : World) (s : Shared) (Q : Value → Shared → Prop) (t : Tok) (hQ : Ends s (fun v s' => v = .bool true) Q) :
    wpAny (model prog w) A9 (call (.builtin "isinstance") [.str "k" t, .type "str"]) Q NoE s := by x_run
theorem split_k (prog : Program) (w : World) (s : Shared) (Q : Value → Shared → Prop) (t u : Tok) (hQ : Ends s (fun v s' => ∃ r t, v = .ref r ∧ IsL s' r [.str "k" t] ∧ s.heap.get? r = none) Q) :
    wpAny (model prog w) A9 (call (.builtin "str.split") [.str "k" t, .str "," u]) Q NoE s := by x_run
theorem nil_in (h : Heap) : Frag.In ([] : Frag) h := fun _ _ e => nomatch e
section
variable {prog : Program} {w : World} {A : Around} {s : Shared}
theorem meth_split {x : Str} {t : Tok} {pl : Sem Bool} {Q : Value × List Value → Shared → Prop} (h : Q (.builtin "str.split", [.str x t]) s) : wpAny (model prog w) A (getMethod (.str x t) "split" pl) Q NoE s :=
  (Looks.of_peek (M := model prog w) (nil_in s.heap) (show peek [] ⟨prog, w.params⟩ (getMethod (.str x t) "split" pl) = some (.builtin "str.split", [.str x t]) by kernel_rfl)).here h
/-- what make_multi_attrgetter gives -/
def GetterM (s : Shared) (f wd : Addr) (b k : Bool) : Prop := ∃ (cl : List (Str × Addr)) (nm cv ct : Value) (ce cp cc pl p1 : Addr) (ps : List Value), IsInner s f (inFd 16 2 "attrgetter" "make_multi_attrgetter.<locals>.attrgetter" cl nm cv ct) ∧
  cl.lookup ("environment" : Str) = some ce ∧ cl.lookup ("parts" : Str) = some cp ∧ cl.lookup ("postprocess" : Str) = some cc ∧
  s.heap.IsCell ce (some (.ref wd)) ∧ s.heap.IsCell cp (some (.ref pl)) ∧ s.heap.IsCell cc (some (Post b)) ∧ IsL s pl [.ref p1] ∧ IsL s p1 ps ∧ IsParts ps k
theorem GetterM.step0 {s s' : Shared} {f wd b k} (h : GetterM s f wd b k) (st : Step0 s s') : GetterM s' f wd b k :=
  let ⟨cl, nm, cv, ct, ce, cp, cc, pl, p1, ps, a, b2, b3, b4, c2, c3, c4, d, d1, e⟩ := h
  ⟨cl, nm, cv, ct, ce, cp, cc, pl, p1, ps, a.step0 st, b2, b3, b4, isCell_step0 c2 st, isCell_step0 c3 st, isCell_step0 c4 st, d.step0 st, d1.step0 st, e⟩
theorem c_getterM {f wd : Addr} {b kk : Bool} {item v : Value} {k : Key} {Q : Value → Shared → Prop} (R : Rm A 700 1000) (X : (KP w.params).In s.heap) (hf : GetterM s f wd b kk) (hw : IsWorld s wd) (hi : IsItem prog w s kk item v) (hv : IsThing v k)
    (h : ∀ r' u s', Step0 s s' → IsL s' r' [u] → IsKey u (k.lowIf b) → s.heap.get? r' = none → Q (.ref r') s') : wpAny (model prog w) A (call (.ref f) [item]) Q NoE s := by
  obtain ⟨cl, nm, cv, ct, ce, cp, cc, pl, p1, ps, a, b2, b3, b4, c2, c3, c4, d, d1, e⟩ := hf
  exact c_mattr R X a b2 b3 b4 c2 c3 c4 hw d d1 (hi.item e) hv h
/-- the attribute's words: [attribute], or its pieces at the commas -/
theorem c_words {m} {L : Addr} {kk : Bool} {av : Value} {s₀ : Shared} {cm} {Q : Flow → Shared → Prop} (R : Rm A 641 943) (X : (KP w.params).In s₀.heap) (F : Run (EV 16 250 w.params L) s₀ m cm s) (hm : m "attribute" = some av) (ha : IsAttr av kk)
    (h : ∀ r u s', Run (EV 16 250 w.params L) s₀ (fun y => if y = "split" then some (.ref r) else m y) cm s' → IsL s' r [u] → IsAttr u kk → ¬ Hot (EV 16 250 w.params L) r → s₀.heap.get? r = none → Q .next s') :
    wpAny (model prog w) A (exec (inAt 16 0) (EV 16 250 w.params L)) Q NoE s := by
  refine wpAny_If (isTrue_plain (Call_ (g_built F X (.builtin "isinstance") (cw_builtin (spliced_more (g_ld F hm (spliced_more (g_built F X (.type "str") (spliced_none ?_)))))))))
  rcases ha with ⟨rfl, rfl⟩ | ⟨t, rfl, rfl⟩
  · refine R.mono.up (d := 900) (u := 2000) (inst_none prog w s _ ?_)
    rintro v s₁ h1 rfl
    refine wpAny_truthy_bool ?_
    simp only [Bool.false_eq_true, if_false]
    have F1 := F.step0 h1
    refine wpAny_execs_cons (wpAny_Assign_Name (List_ (spliced_more (g_ld F1 hm (spliced_none (op_newList (by simp) (fun r s₂ h2 hr nr _ => ?_) (size_ge (F1.K X))))))))
    have F2 := F1.step0 h2
    refine g_st F2 fun s₃ F3 h3 => wpAny_execs_nil ?_
    exact h r _ s₃ F3 (hr.step h3 (F1.hotAt nr)) (.inl ⟨rfl, rfl⟩) (F1.hotAt nr) (F1.newAt nr)
  · refine R.mono.up (d := 900) (u := 2000) (inst_str prog w s _ t ?_)
    rintro v s₁ h1 rfl
    refine wpAny_truthy_bool ?_
    simp only [if_true]
    have F1 := F.step0 h1
    refine wpAny_execs_cons (wpAny_Assign_Name (MethodCall_ (g_ld F1 hm (meth_split (cw_builtin (spliced_more (g_str fun t2 s₂ h2 => spliced_none ?_)))))))
    have F2 := F1.step0 h2
    refine R.mono.up (d := 900) (u := 2000) (split_k prog w s₂ _ t t2 ?_)
    rintro v s₃ h3 ⟨r, t3, rfl, hr, nr⟩
    refine g_st (F2.step0 h3) fun s₄ F4 h4 => wpAny_execs_nil ?_
    exact h r _ s₄ F4 (hr.step h4 (F2.hotAt nr)) (.inr ⟨t3, rfl, rfl⟩) (F2.hotAt nr) (F2.newAt nr)
end
end Mine
end
section
open PySem PySem.W PySem.W.X PyProof.Rows
namespace Mine
section
variable {prog : Program} {w : World} {A : Around} {s : Shared}
theorem c_makeM {wd : Addr} {b kk : Bool} {av : Value} {args : Args} {Q : Value → Shared → Prop} (R : Rm A 640 940) (X : (KP w.params).In s.heap) (TB : TabsOk s.heap) (ha : IsAttr av kk)
    (hbind : peek (KP w.params) ⟨prog, w.params⟩ (bindArgs (fdAt w.params 250) args) = some [(("environment" : Str), Value.ref wd), ("attribute", av), ("postprocess", Post b)])
    (h : ∀ f s', Step0 s s' → (∀ (X : Addr → Prop) s'', (∀ b, X b → ∃ o, s.heap.get? b = some o ∧ ∀ vs, o.data ≠ .fields vs) → Step X s' s'' → GetterM s'' f wd b kk) → s.heap.get? f = none → Q (.ref f) s') :
    wpAny (model prog w) A (call (.ref 250) args.pos args.kw) Q NoE s := by
  refine call_txt 16 250 X (Nat.lt_of_le_of_lt R.depth (by decide)) hbind (fun L => List.forall_mem_cons.mpr ⟨.inr ⟨by kernel_rfl, by kernel_rfl⟩, List.forall_mem_cons.mpr ⟨.inl (by kernel_rfl), List.forall_mem_cons.mpr ⟨.inr ⟨by kernel_rfl, by kernel_rfl⟩, List.forall_mem_nil _⟩⟩⟩)
    (fun L hL s₁ F0 h01 hn => ?_)
  have R1 := R.deeper (EV 16 250 w.params L)
  have F : Run (EV 16 250 w.params L) s _ _ s₁ := ⟨F0, h01, hn⟩
  refine wpAny_execs_cons (c_words R1 X F (by kernel_rfl) ha fun sp u s₂ F2 hsp hu csp nsp => ?_)
  -- parts = [_prepare_attribute_parts(item) for item in split]
  refine wpAny_execs_cons (wpAny_Assign_Name (comp_rule X F2 (g_ld F2 putN (iter_list hsp.is (fun I s₃ hit h3 nI hI4 => ?_) (size_ge (F2.K X))))))
  have F3 := F2.step0 h3
  have spI : sp ≠ I := fun e => by
    obtain ⟨o, q⟩ := hsp.some
    rw [e, nI] at q; cases q
  refine ⟨I, _, _, _, _, fun i m m' => ∃ v, (#[u] : Array Value)[i]? = some v ∧ m' = fun y : Str => if y = "item" then some v else m y, _, rfl, h3, ?_, itr_list R1.handled spI hI4, ⟨hit, (hsp.step0 h3).is⟩, by simp, ?_, ?_, ?_⟩
  · rintro b rfl; exact nI
  · rintro b (rfl | rfl)
    · exact F2.hotAt nI
    · exact csp
  · exact fun i C => bnd_name (fun v s h => h.1) (by kernel_rfl) (by kernel_rfl)
  · intro Z hZ
    refine ⟨fun i ys s' => (i = 0 → ys = []) ∧ (i = 1 → ∃ p ps, ys = [.ref p] ∧ IsL s' p ps ∧ IsParts ps kk ∧ ¬ Z p ∧ s₂.heap.get? p = none), ⟨fun s' h => ⟨fun _ => rfl, fun q => by cases q⟩, fun i ys s s' h st => ⟨h.1, fun q => ?_⟩, ?_⟩, ?_⟩
    · obtain ⟨p, ps, e, hp, hps, nz, nn⟩ := h.2 q
      exact ⟨p, ps, e, hp.step st nz, hps, nz, nn⟩
    · rintro i ys C mm m' s₄ hi hys ⟨v, hv, rfl⟩ R4 h24 ex
      have hi0 : i = 0 := by simpa using hi
      subst hi0
      have hv' : v = u := by simpa using hv.symm
      subst hv'
      obtain rfl := hys.1 rfl
      refine wpAny_tests_nil ⟨Step.refl _ _, ?_⟩
      simp only [if_true]
      refine Call_ (g_glob R4 X (.ref 255) (cw_fn (spliced_more (g_ld R4 putN (spliced_none ⟨isFn_K (R4.K X), c_prep R1.mono (R4.K X) hu fun p ps s₅ h5 hp hps np => ⟨h5, (fun q => by cases q), fun _ => ⟨p, ps, rfl, hp, hps, ?_, ?_⟩⟩⟩)))))
      · intro z
        obtain ⟨o, e⟩ := ex p z
        rw [np] at e; cases e
      · cases e : s₂.heap.get? p with
        | none => rfl
        | some o =>
          obtain ⟨o', e'⟩ := h3.there p o e (fun q => q)
          by_cases z : Z p
          · obtain ⟨o2, e2⟩ := ex p z
            rw [np] at e2; cases e2
          · obtain ⟨o2, e2⟩ := h24.there p o' e' z
            rw [np] at e2; cases e2
    · rintro D ys s₄ ⟨_, hys⟩ hD nD h4 _
      obtain ⟨p1, ps, rfl, hp, hps, _, np⟩ := hys rfl
      have F4 := F2.step0 h4
      refine g_stc F4 (c := celA 16 250 w.params L "parts") (by kernel_rfl) fun s₅ F5 h5 => ?_
      have hD5 := hD.step h5 (F2.hotAt nD)
      have hp5 := hp.step h5 (F2.hotAt np)
      refine wpAny_execs_cons (def_at 16 2 250 (p := ⟨247, 120, 4, "make_multi_attrgetter.<locals>.attrgetter"⟩) (name := "attrgetter") (bind := "attrgetter") (c := 249) rfl X F5 (F5.since.tab TB) (List.mem_of_getElem? (i := 1) rfl) ⟨_, _, by rfl, by rfl, by rfl⟩ (by kernel_rfl) (by kernel_rfl) (by kernel_rfl) (by kernel_rfl) (hd_K (F5.K X)) fun f cv ct nm s₆ h6 hf nf => ?_)
      have F6 := F5.step0 h6
      refine g_st F6 fun s₇ F7 h7 => ?_
      have nf0 := F5.newAt nf
      refine wpAny_execs_cons (wpAny_Return_some (g_ld F7 (v := .ref f) (by kernel_rfl) (h f s₇ F7.since ?_ nf0)))
      intro X' s8 hX h8
      have nw : ∀ b, s.heap.get? b = none → ¬ X' b := fun b e x => by
        obtain ⟨o, e', _⟩ := hX b x
        rw [e] at e'; cases e'
      have hf7 := hf.hot F6 (F5.hotAt nf) h7
      have cell : ∀ (x : Str) (v : Value), (EV 16 250 w.params L).kindOf x = some .cell → (EV 16 250 w.params L).cells.lookup x = some (celA 16 250 w.params L x) → s₇.heap.IsCell (celA 16 250 w.params L x) (some v) → s8.heap.IsCell (celA 16 250 w.params L x) (some v) := fun x v hk hc q =>
        isCell_stepX q h8 (nw _ (hn _ (.inr ⟨x, hc, hk⟩)))
      refine ⟨_, nm, cv, ct, celA 16 250 w.params L "environment", celA 16 250 w.params L "parts", celA 16 250 w.params L "postprocess", D, p1, ps, ⟨h8.keep _ _ hf7.1 rfl (nw _ nf0), ?_⟩, by kernel_rfl, by kernel_rfl, by kernel_rfl,
        cell _ _ (by kernel_rfl) (by kernel_rfl) (cell_at "environment" F7 (by kernel_rfl)), cell _ _ (by kernel_rfl) (by kernel_rfl) (cell_at "parts" F7 (by kernel_rfl)), cell _ _ (by kernel_rfl) (by kernel_rfl) (cell_at "postprocess" F7 (by kernel_rfl)),
        ((hD5.step0 h6).step h7 (F2.hotAt nD)).step h8 (nw _ (F2.newAt nD)), ((hp5.step0 h6).step h7 (F2.hotAt np)).step h8 (nw _ (F2.newAt np)), hps⟩
      obtain ⟨c, oc, vs, t, e, g, cl, d, v⟩ := hf7.2
      refine ⟨c, oc, vs, t, e, h8.keep _ _ g (by unfold isTab; rw [cl]) (fun x => ?_), cl, d, v⟩
      obtain ⟨o, e', nd⟩ := hX c x
      have := F7.since.at e' (by
        unfold isTab
        split
        · rename_i q1 q2; exact absurd q2 (nd _)
        · rfl)
      rw [g] at this
      cases this
      exact nd _ d
end
end Mine
end
section
open PySem PySem.W PySem.W.X PyProof.Rows
namespace Mine
/-! groupby -/
def groupStep (κ : Value → Key) (gs : List (Key × List Value)) (row : Value) : List (Key × List Value) := match gs.getLast? with
  | some (k, xs) => if k = κ row then gs.dropLast ++ [(k, xs ++ [row])] else gs ++ [(κ row, [row])]
  | none => gs ++ [(κ row, [row])]
def groupOn (κ : Value → Key) (vs : List Value) : List (Key × List Value) := vs.foldl (groupStep κ) []
theorem groupOn_snoc (κ vs v) : groupOn κ (vs ++ [v]) = groupStep κ (groupOn κ vs) v := by unfold groupOn; simp
/-- one group: a pair of its mark and its list -/
def IsGroup (s : Shared) (T g : Addr) (kx : Key × List Value) : Prop := ∃ mk, IsT s T [mk, .ref g] ∧ IsKey mk kx.1 ∧ IsL s g kx.2
theorem groupOn_key {κ : Value → Key} (vs : List Value) : (∀ kx ∈ groupOn κ vs, ∃ u ∈ vs, kx.1 = κ u) ∧ ∀ kx ∈ groupOn κ vs, kx.2.length ≤ vs.length := by
  revert vs
  refine revInd ⟨by simp [groupOn], by simp [groupOn]⟩ fun l a ih => ?_
  rw [groupOn_snoc]
  generalize groupOn κ l = gs at ih
  have old : ∀ kx ∈ gs, ∃ u ∈ l ++ [a], kx.1 = κ u := fun kx h => let ⟨u, hu, e⟩ := ih.1 kx h; ⟨u, List.mem_append_left _ hu, e⟩
  have old2 : ∀ kx ∈ gs, kx.2.length ≤ (l ++ [a]).length := fun kx h => by have := ih.2 kx h; simp; omega
  have new : ∃ u ∈ l ++ [a], κ a = κ u := ⟨a, by simp, rfl⟩
  unfold groupStep
  split
  · rename_i k xs hlast
    have hm : (k, xs) ∈ gs := List.mem_of_getLast? hlast
    split
    · constructor
      · intro kx h
        rcases List.mem_append.mp h with h | h
        · exact old kx ((List.dropLast_sublist gs).subset h)
        · rw [List.mem_singleton.mp h]; exact old (k, xs) hm
      · intro kx h
        rcases List.mem_append.mp h with h | h
        · exact old2 kx ((List.dropLast_sublist gs).subset h)
        · rw [List.mem_singleton.mp h]
          have := ih.2 _ hm
          simp; exact this
    · constructor
      · intro kx h
        rcases List.mem_append.mp h with h | h
        · exact old kx h
        · rw [List.mem_singleton.mp h]; exact new
      · intro kx h
        rcases List.mem_append.mp h with h | h
        · exact old2 kx h
        · rw [List.mem_singleton.mp h]; simp
  · constructor
    · intro kx h
      rcases List.mem_append.mp h with h | h
      · exact old kx h
      · rw [List.mem_singleton.mp h]; exact new
    · intro kx h
      rcases List.mem_append.mp h with h | h
      · exact old2 kx h
      · rw [List.mem_singleton.mp h]; simp
theorem groupOn_len (κ : Value → Key) (vs : List Value) : (groupOn κ vs).length ≤ vs.length := by
  revert vs
  refine revInd (by simp [groupOn]) fun l a ih => ?_
  rw [groupOn_snoc]
  generalize groupOn κ l = gs at ih
  unfold groupStep
  split
  · rename_i k xs hlast
    have : gs ≠ [] := fun e => by rw [e] at hlast; cases hlast
    have hp := List.length_pos_iff.mpr this
    split
    · simp [List.length_dropLast]; omega
    · simp; omega
  · simp; omega
/-- a list of groups -/
structure IsGroups (s : Shared) (l : Addr) (gs : List (Key × List Value)) (tg : List (Addr × Addr)) : Prop where
  list : IsL s l (tg.map fun p => .ref p.1)
  len : tg.length = gs.length
  each : ∀ (i : Nat) (p : Addr × Addr) (kx : Key × List Value), tg[i]? = some p → gs[i]? = some kx → IsGroup s p.1 p.2 kx
theorem IsGroup.step {X : Addr → Prop} {s s' : Shared} {T g kx} (h : IsGroup s T g kx) (st : Step X s s') (n1 : ¬ X T) (n2 : ¬ X g) : IsGroup s' T g kx := let ⟨mk, a, b, c⟩ := h; ⟨mk, a.step st n1, b, c.step st n2⟩
theorem IsGroups.step {X : Addr → Prop} {s s' : Shared} {l gs tg} (h : IsGroups s l gs tg) (st : Step X s s') (n : ¬ X l) (n2 : ∀ p ∈ tg, ¬ X p.1 ∧ ¬ X p.2) : IsGroups s' l gs tg :=
  ⟨h.list.step st n, h.len, fun i p kx a b => (h.each i p kx a b).step st (n2 p (List.mem_of_getElem? a)).1 (n2 p (List.mem_of_getElem? a)).2⟩
theorem IsGroups.step0 {s s' : Shared} {l gs tg} (h : IsGroups s l gs tg) (st : Step0 s s') : IsGroups s' l gs tg := h.step st id fun _ _ => ⟨id, id⟩
theorem IsGroups.some {s : Shared} {l gs tg} (h : IsGroups s l gs tg) : ∀ p ∈ tg, (∃ o, s.heap.get? p.1 = some o) ∧ ∃ o, s.heap.get? p.2 = some o := fun p hp => by
  obtain ⟨i, hi⟩ := List.getElem?_of_mem hp
  have hl : i < gs.length := by
    have := (List.getElem?_eq_some_iff.mp hi).1
    rw [h.len] at this; exact this
  obtain ⟨mk, a, _, c⟩ := h.each i p gs[i] hi (by simp [hl])
  exact ⟨a.some, c.some⟩
def groupIf : Stmt := match (fnBody 24).getD 1 (.Pass default) with
  | .For _ _ bd _ _ => bd.getD 1 (.Pass default)
  | _ => .Pass default
def groupElse : List Stmt := match groupIf with
  | .If _ _ o _ => o
  | _ => []
section
variable {prog : Program} {w : World} {A : Around} {s : Shared}
theorem c_groupby {l f : Addr} {vs : List Value} {κ : Value → Key} {Q : Value → Shared → Prop} (R : Rm A 650 940) (X : (KP w.params).In s.heap) (hl : IsL s l vs) (hz : vs.length ≤ 100)
    (hf : KeyFn prog w s f vs κ) (hsame : ∀ v ∈ vs, ∀ u ∈ vs, (κ v).same (κ u) = true)
    (k : ∀ r tg s', Step0 s s' → IsGroups s' r (groupOn κ vs) tg → s.heap.get? r = none → (∀ p ∈ tg, s.heap.get? p.1 = none ∧ s.heap.get? p.2 = none) → Q (.ref r) s') :
    wpAny (model prog w) A (call (.ref 310) [.ref l, .ref f]) Q NoE s := by
  refine call_txt 24 310 (args := ⟨[.ref l, .ref f], []⟩) (binds := [("rows", .ref l), ("key", .ref f)]) X
    (Nat.lt_of_le_of_lt R.depth (by decide)) (by kernel_rfl) (fun L => List.forall_mem_cons.mpr ⟨.inl (by kernel_rfl), List.forall_mem_cons.mpr ⟨.inl (by kernel_rfl), List.forall_mem_nil _⟩⟩)
    (fun L hL s₁ F0 h01 hn => ?_)
  have R1 := R.deeper (EV 24 310 w.params L)
  have R2 : Rm (A.deeper (EV 24 310 w.params L)) 700 1000 := R1.mono
  have F : Run (EV 24 310 w.params L) s _ _ s₁ := ⟨F0, h01, hn⟩
  obtain ⟨ol, hol⟩ := hl.some
  -- found = []
  refine wpAny_execs_cons (wpAny_Assign_Name (List_ (spliced_none (op_newList (by decide) (fun d s₂ h2 hd nd _ => ?_) (size_ge (F.K X))))))
  refine g_st (F.step0 h2) fun s₃ F3 h3 => ?_
  have cd : ¬ Hot (EV 24 310 w.params L) d := F.hotAt nd
  have nd0 := F.newAt nd
  have hd3 := hd.step h3 cd
  -- for row in rows
  refine wpAny_execs_cons (for_ruleW (g_ld F3 (v := .ref l) (by kernel_rfl) (iter_list (hl.step0 F3.since).is (fun I s₄ hit h4 nI hI4 => ?_) (size_ge (F3.K X)))))
  have F4 := F3.step0 h4
  have cI : ¬ Hot (EV 24 310 w.params L) I := F3.hotAt nI
  have dI : d ≠ I := fun e => (by obtain ⟨o, q⟩ := hd3.some; rw [e, nI] at q; cases q)
  have lI : l ≠ I := fun e => (by have := F3.newAt nI; rw [← e, hol] at this; cases this)
  have dl : d ≠ l := fun e => (by rw [e, hol] at nd0; cases nd0)
  -- what was not there at the start, and is not the iterator
  let W : Addr → Prop := fun b => s.heap.get? b = none ∧ b ≠ I
  refine ⟨I, _, _, _, _, _, fun i s' => ∃ m tg, Run (EV 24 310 w.params L) s m _ s' ∧ m "key" = some (.ref f) ∧ m "found" = some (.ref d) ∧ IsGroups s' d (groupOn κ (vs.take i)) tg ∧ (∀ p ∈ tg, (¬ Hot (EV 24 310 w.params L) p.1 ∧ ¬ Hot (EV 24 310 w.params L) p.2) ∧ (W p.1 ∧ W p.2) ∧ p.1 ≠ d ∧ p.2 ≠ d ∧ p.1 ≠ p.2) ∧ (tg.map Prod.snd).Nodup ∧ (∀ p ∈ tg, ∀ q ∈ tg, p.1 ≠ q.2), W, rfl,
    src_list R1.handled cI (F3.cold hol) lI hI4 (by kernel_rfl) (by kernel_rfl), (fun b wb db => db.elim wb.2 fun e => (by have h1 := wb.1; rw [e, hol] at h1; cases h1)), ⟨hit, (hl.step0 F4.since).is⟩,
    ⟨_, [], F4, by kernel_rfl, by kernel_rfl, ⟨by simpa using hd3.step0 h4, rfl, fun i p kx a => by simp at a⟩, by simp, by simp, by simp⟩, ?turn, ?fin⟩
  case fin =>
    rintro s₅ s₆ ⟨m, tg, F5, m1, m2, hg, hp, _, _⟩ h6
    have F6 := F5.stepX h6 (fun b e => e ▸ cI) (fun b e => e ▸ F3.newAt nI)
    refine wpAny_execs_cons (wpAny_Return_some (g_ld F6 m2 (k d tg s₆ F6.since ?_ nd0 fun p hpm => ⟨(hp p hpm).2.1.1.1, (hp p hpm).2.1.2.1⟩)))
    have := hg.step h6 dI fun p hpm => ⟨(hp p hpm).2.1.1.2, (hp p hpm).2.1.2.2⟩
    simpa using this
  case turn =>
    rintro i s₅ hi ⟨m, tg, F5, m1, m2, hg, hp, nod, ap⟩
    refine ⟨m, _, F5.act, ?_⟩
    rintro m' s₆ ⟨v, hv, rfl⟩ F6' h6 st6
    have hv' : vs[i]? = some v := by simpa using hv
    have hvm : v ∈ vs := List.mem_of_getElem? hv'
    have F6 : Run (EV 24 310 w.params L) s _ _ s₆ := ⟨F6', (Step.trans F5.since.up h6).new (fun b hb _ => hb.elim (F5.new b) fun e => e ▸ F3.newAt nI), F5.new⟩
    have hg6 := hg.step h6 (fun q => q.elim cd dI) fun p hpm => ⟨fun q => q.elim (hp p hpm).1.1 (hp p hpm).2.1.1.2, fun q => q.elim (hp p hpm).1.2 (hp p hpm).2.1.2.2⟩
    have hnext : groupOn κ (vs.take (i + 1)) = groupStep κ (groupOn κ (vs.take i)) v := by rw [List.take_add_one, hv', Option.toList_some, groupOn_snoc]
    -- mark = key(row)
    refine wpAny_execs_cons (wpAny_Assign_Name (Call_ (g_ld F6 (keepN m1) (cw_fn (spliced_more (g_ld F6 putN (spliced_none ⟨hf.1.step0 F6.since, hf.2 v hvm _ _ _ R2 F6.since fun mk s₇ h7 hmk => ?_⟩)))))))
    refine g_st (F6.step0 h7) fun s₈ F8 h8 => ?_
    have hg8 := (hg6.step0 h7).step h8 cd fun p hpm => (hp p hpm).1
    have h68 : Step (fun b => Hot (EV 24 310 w.params L) b ∨ W b) s₆ s₈ := h7.up.trans (h8.mono fun b e => .inl e)
    generalize hgs : groupOn κ (vs.take i) = gs at hg8 hnext
    have hkeys : ∀ kx ∈ gs, (∃ u ∈ vs, kx.1 = κ u) ∧ kx.2.length ≤ 100 := fun kx hk => by
      rw [← hgs] at hk
      obtain ⟨u, hu, e⟩ := (groupOn_key _).1 kx hk
      have := (groupOn_key _).2 kx hk
      refine ⟨⟨u, List.mem_of_mem_take hu, e⟩, Nat.le_trans this (Nat.le_trans (List.length_take_le' _ _) hz)⟩
    have hgl : gs.length ≤ 100 := by rw [← hgs]; exact Nat.le_trans (groupOn_len _ _) (Nat.le_trans (List.length_take_le' _ _) hz)
    have mk8 : (fun y : Str => if y = "row" then some v else m y) "found" = some (.ref d) := keepN m2
    have wd : W d := ⟨nd0, dI⟩
    have nI6 : ∀ b, s.heap.get? b = none → s₈.heap.get? b = none → b ≠ I := fun b _ h8' e => by
      obtain ⟨⟨o, hI, _⟩, _⟩ := st6
      obtain ⟨o', e'⟩ := (h7.up.trans h8).there I o hI cI
      rw [e, e'] at h8'; cases h8'
    -- found.append((mark, [row]))
    have add : ∀ s₉, Run (EV 24 310 w.params L) s (fun y : Str => if y = "mark" then some mk else if y = "row" then some v else m y) (mC (EV 24 310 w.params L) [("rows", .ref l), ("key", .ref f)]) s₉ → Step0 s₈ s₉ → groupStep κ gs v = gs ++ [(κ v, [v])] →
        wpAny (model prog w) (A.deeper (EV 24 310 w.params L)) (execs groupElse (EV 24 310 w.params L)) (fun f_1 s'' => f_1 = .next ∧ (∃ m tg, Run (EV 24 310 w.params L) s m (mC (EV 24 310 w.params L) [("rows", .ref l), ("key", .ref f)]) s'' ∧ m "key" = some (.ref f) ∧ m "found" = some (.ref d) ∧ IsGroups s'' d (groupOn κ (vs.take (i + 1))) tg ∧ (∀ p ∈ tg, (¬ Hot (EV 24 310 w.params L) p.1 ∧ ¬ Hot (EV 24 310 w.params L) p.2) ∧ (W p.1 ∧ W p.2) ∧ p.1 ≠ d ∧ p.2 ≠ d ∧ p.1 ≠ p.2) ∧ (tg.map Prod.snd).Nodup ∧ (∀ p ∈ tg, ∀ q ∈ tg, p.1 ≠ q.2)) ∧ Step (fun b => Hot (EV 24 310 w.params L) b ∨ W b) s₆ s'') NoE s₉ := by
      intro s₉ F9 h89 hstep
      have hg9 := hg8.step0 h89
      have mk9 : (fun y : Str => if y = "mark" then some mk else if y = "row" then some v else m y) "found" = some (.ref d) := keepN mk8
      refine wpAny_execs_cons (wpAny_Expr_any (MethodCall_ (g_ld F9 mk9 (meth_append hg9.list (cw_builtin (spliced_more (Tuple_ (spliced_more (g_ld F9 (v := mk) putN (spliced_more (List_ (spliced_more (g_ld F9 (v := v) (by kernel_rfl) (spliced_none (op_newList (by simp) (fun g s₁₀ h10 hgl ng _ => spliced_none ?_) (size_ge (F9.K X)))))))))))))))))
      have F10 := F9.step0 h10
      refine wpAny_newTuple (spliced_none ?_)
      generalize hs11 : ({ s₁₀ with heap := s₁₀.heap.push { cls := .type "tuple", data := .seq [mk, Value.ref g].toArray } } : Shared) = s₁₁
      generalize hT0 : s₁₀.heap.objs.size = T
      have h11 : Step0 s₁₀ s₁₁ := by rw [← hs11]; exact Step0.push _ _
      have hT : IsT s₁₁ T [mk, .ref g] := by rw [← hs11, ← hT0]; exact Heap.get?_push_size _ rfl
      have nT : s₁₀.heap.get? T = none := Heap.get?_none_of_le (by rw [hT0]; exact Nat.le_refl _)
      have F11 := F10.step0 h11
      have h911 : Step0 s₉ s₁₁ := h10.trans h11
      have hg11 := hg9.step0 h911
      have lt : (tg.map fun p => Value.ref p.1).length ≤ 1000 := by rw [List.length_map, hg11.len]; omega
      refine op_append hg11.list lt (fun s₁₂ hd12 h12 => wpAny_execs_nil ?_)
      have nT9 : s₉.heap.get? T = none := h10.notThere nT
      have nTs : s.heap.get? T = none := F9.newAt nT9
      have ngs : s.heap.get? g = none := F9.newAt ng
      have dT : T ≠ d := fun e => (by obtain ⟨o, q⟩ := hg9.list.some; rw [← e, nT9] at q; cases q)
      have dg : g ≠ d := fun e => (by obtain ⟨o, q⟩ := hg9.list.some; rw [← e, ng] at q; cases q)
      have Tg : T ≠ g := fun e => (by obtain ⟨o, q⟩ := hgl.some; rw [← e, nT] at q; cases q)
      have nT8 : s₈.heap.get? T = none := h89.notThere nT9
      have ng8 : s₈.heap.get? g = none := h89.notThere ng
      have old : ∀ p ∈ tg, p.1 ≠ T ∧ p.2 ≠ T ∧ p.1 ≠ g ∧ p.2 ≠ g := fun p hpm => by
        obtain ⟨⟨o1, e1⟩, ⟨o2, e2⟩⟩ := hg9.some p hpm
        refine ⟨?_, ?_, ?_, ?_⟩
        · rintro e; rw [e, nT9] at e1; cases e1
        · rintro e; rw [e, nT9] at e2; cases e2
        · rintro e; rw [e, ng] at e1; cases e1
        · rintro e; rw [e, ng] at e2; cases e2
      have F12 := F11.stepX h12 (fun b e => e ▸ cd) (fun b e => e ▸ nd0)
      have hg12 : ∀ (i : Nat) (p : Addr × Addr) (kx : Key × List Value), tg[i]? = some p → gs[i]? = some kx → IsGroup s₁₂ p.1 p.2 kx := fun i p kx a b =>
        (hg11.each i p kx a b).step h12 (hp p (List.mem_of_getElem? a)).2.2.1 (hp p (List.mem_of_getElem? a)).2.2.2.1
      refine ⟨rfl, ⟨_, tg ++ [(T, g)], F12, ?_, mk9, ⟨by rw [List.map_append]; exact hd12, by rw [hnext, hstep]; simp [hg11.len], fun j p kx a b => ?_⟩, ?_, ?_, ?_⟩, ?_⟩
      · have q1 : (fun y : Str => if y = "row" then some v else m y) "key" = some (.ref f) := keepN m1
        exact keepN q1
      · rw [hnext, hstep] at b
        by_cases hj : j < tg.length
        · rw [List.getElem?_append_left hj] at a
          rw [List.getElem?_append_left (by rw [← hg11.len]; exact hj)] at b
          exact hg12 j p kx a b
        · rw [List.getElem?_append_right (by omega)] at a
          rw [List.getElem?_append_right (by rw [← hg11.len]; omega)] at b
          have hj0 : j - tg.length = 0 := by
            have := (List.getElem?_eq_some_iff.mp a).1
            simp at this; omega
          have hj1 : j - gs.length = 0 := by rw [← hg11.len]; exact hj0
          rw [hj0] at a; rw [hj1] at b
          simp at a b
          subst a b
          exact ⟨mk, hT.step h12 dT, hmk, (hgl.step0 h11).step h12 dg⟩
      · intro p hpm
        rcases List.mem_append.mp hpm with hpm | hpm
        · exact hp p hpm
        · rw [List.mem_singleton.mp hpm]
          exact ⟨⟨F9.hotAt nT9, F9.hotAt ng⟩, ⟨⟨nTs, nI6 T nTs nT8⟩, ⟨ngs, nI6 g ngs ng8⟩⟩, dT, dg, Tg⟩
      · rw [List.map_append, List.nodup_append]
        refine ⟨nod, by simp, ?_⟩
        intro a ha b hb
        obtain ⟨p, hpm, rfl⟩ := List.mem_map.mp ha
        simp at hb
        rw [hb]
        exact (old p hpm).2.2.2
      · intro p hpm q hqm
        rcases List.mem_append.mp hpm with hpm | hpm <;> rcases List.mem_append.mp hqm with hqm | hqm
        · exact ap p hpm q hqm
        · rw [List.mem_singleton.mp hqm]; exact (old p hpm).2.2.1
        · rw [List.mem_singleton.mp hpm]; exact (old q hqm).2.1.symm
        · rw [List.mem_singleton.mp hpm, List.mem_singleton.mp hqm]; exact Tg
      · exact h68.trans ((h89.trans h911).up.trans (h12.mono fun b e => .inr (e ▸ wd)))
    have lt8 : (tg.map fun p => Value.ref p.1).length ≤ 1000 := by rw [List.length_map, hg8.len]; omega
    have mk8' : (fun y : Str => if y = "mark" then some mk else if y = "row" then some v else m y) "found" = some (.ref d) := keepN mk8
    -- if found and found[-1][0] == mark
    refine wpAny_execs_cons (wpAny_If (isTrue_and (isTrue_plain (g_ld F8 mk8' (op_truthyL hg8.list lt8 fun s₉ h9 => ?_)))))
    have F9 := F8.step0 h9
    have hg9 := hg8.step0 h9
    cases hlast : gs.getLast? with
    | none =>
      have eg : gs = [] := List.getLast?_eq_none_iff.mp hlast
      have et : tg = [] := List.length_eq_zero_iff.mp (by rw [hg8.len, eg]; rfl)
      rw [et]
      simp only [List.map_nil, List.isEmpty_nil, Bool.not_true, Bool.false_eq_true, if_false]
      refine wpAny_mono (add s₉ F9 h9 (by unfold groupStep; rw [hlast])) (fun f_1 s'' q => ?_) fun _ _ q => q
      obtain ⟨rfl, q⟩ := q
      exact wpAny_execs_nil q
    | some kx =>
      obtain ⟨kk, xs⟩ := kx
      have hm : (kk, xs) ∈ gs := List.mem_of_getLast? hlast
      obtain ⟨⟨u, hu, hku⟩, hxl⟩ := hkeys _ hm
      have ge : gs ≠ [] := fun e => by rw [e] at hlast; cases hlast
      have gp := List.length_pos_iff.mpr ge
      have te : tg ≠ [] := fun e => by have := hg8.len; rw [e] at this; simp at this; omega
      obtain ⟨p, hpl⟩ : ∃ p, tg.getLast? = some p := ⟨tg.getLast te, List.getLast?_eq_some_getLast te⟩
      have hpm : p ∈ tg := List.mem_of_getLast? hpl
      have hpi : tg[gs.length - 1]? = some p := by rw [← hg8.len, ← List.getLast?_eq_getElem?]; exact hpl
      have hgi : gs[gs.length - 1]? = some (kk, xs) := by rw [← List.getLast?_eq_getElem?]; exact hlast
      have lastv : (tg.map fun p => Value.ref p.1).getLast? = some (.ref p.1) := by rw [List.getLast?_map, hpl]; rfl
      have ne : (!(tg.map fun p => Value.ref p.1).isEmpty) = true := by
        cases tg with
        | nil => exact absurd rfl te
        | cons _ _ => rfl
      rw [ne]
      simp only [if_true]
      obtain ⟨mk0, hT0, hmk0, hg0⟩ := hg9.each _ p (kk, xs) hpi hgi
      refine isTrue_and (wpAny_isTrue_Compare1 (Subscript_ (Subscript_ (g_ld F9 mk8' (wpAny_UnaryOp (g_int fun t1 s₁₀ h10 => neg_int ?_))))))
      have h9a := h10.trans (Step0.toks s₁₀ (s₁₀.toks + 1))
      have hg10 := hg9.step0 h9a
      refine sub_last hg10.list lastv lt8 (g_int fun t2 s₁₁ h11 => sub_tup (k := 0) ((hT0.step0 h9a).step0 h11) rfl (by simp) (g_ld ((F9.step0 h9a).step0 h11) (v := mk) putN (cmp_eq hmk0 hmk (by rw [hku]; exact hsame u hu v hvm) (wpAny_truthy_bool ?_))) rfl) rfl
      have h911 := h9a.trans h11
      have F11 := F9.step0 h911
      have hg11 := hg9.step0 h911
      by_cases hkv : kk = κ v
      · simp only [hkv, decide_true, if_true]
        refine isTrue_and_nil ?_
        simp only [if_true]
        -- found[-1][1].append(row)
        refine wpAny_execs_cons (wpAny_Expr_any (MethodCall_ (Subscript_ (Subscript_ (g_ld F11 mk8' (wpAny_UnaryOp (g_int fun t3 s₁₂ h12 => neg_int ?_)))))))
        have h12a := h12.trans (Step0.toks s₁₂ (s₁₂.toks + 1))
        have hg12 := hg11.step0 h12a
        refine sub_last hg12.list lastv lt8 (g_int fun t4 s₁₃ h13 => sub_tup (k := 1) (((hT0.step0 h911).step0 h12a).step0 h13) rfl (by simp) ?_ rfl) rfl
        have h913 := (h911.trans h12a).trans h13
        have F13 := F9.step0 h913
        have hg13 := hg9.step0 h913
        refine meth_append (hg0.step0 h913) (cw_builtin (spliced_more (g_ld F13 (v := v) (by kernel_rfl) (spliced_none (op_append (hg0.step0 h913) (by omega) fun s₁₄ hd14 h14 => wpAny_execs_nil ?_)))))
        have F14 := F13.stepX h14 (fun b e => e ▸ (hp p hpm).1.2) (fun b e => e ▸ (hp p hpm).2.1.2.1)
        have hstep : groupStep κ gs v = gs.dropLast ++ [(kk, xs ++ [v])] := by unfold groupStep; rw [hlast]; simp only [hkv, if_true]
        have len' : (gs.dropLast ++ [(kk, xs ++ [v])]).length = gs.length := by simp [List.length_dropLast]; omega
        refine wpAny_execs_nil ⟨⟨_, tg, F14, ?_, mk8', ⟨hg13.list.step h14 (hp p hpm).2.2.2.1.symm, by rw [hnext, hstep, len']; exact hg8.len, fun j q kx a b => ?_⟩, hp, nod, ap⟩, ?_⟩
        · have q1 : (fun y : Str => if y = "row" then some v else m y) "key" = some (.ref f) := keepN m1
          exact keepN q1
        · rw [hnext, hstep] at b
          have hqm := List.mem_of_getElem? a
          by_cases hj : j < gs.length - 1
          · rw [List.getElem?_append_left (by simp; exact hj), List.getElem?_dropLast, if_pos hj] at b
            refine (hg13.each j q kx a b).step h14 (ap q hqm p hpm) ?_
            intro e
            have hij : j = gs.length - 1 := by
              have l1 := (List.getElem?_eq_some_iff.mp a).1
              have l2 := (List.getElem?_eq_some_iff.mp hpi).1
              refine (List.getElem_inj (xs := tg.map Prod.snd) (h₀ := by simpa using l1) (h₁ := by simpa using l2) nod).mp ?_
              have e1 : tg[j] = q := (List.getElem?_eq_some_iff.mp a).2
              have e2 : tg[gs.length - 1] = p := (List.getElem?_eq_some_iff.mp hpi).2
              simp [e1, e2, e]
            omega
          · rw [List.getElem?_append_right (by simp; omega)] at b
            have hj2 : j = gs.length - 1 := by
              have := (List.getElem?_eq_some_iff.mp a).1
              rw [hg8.len] at this
              omega
            subst hj2
            simp at b
            subst b
            rw [hpi] at a
            cases a
            exact ⟨mk0, (hT0.step0 h913).step h14 (hp p hpm).2.2.2.2, hmk0, hd14⟩
        · exact h68.trans ((h9.trans h913).up.trans (h14.mono fun b e => .inr (e ▸ (hp p hpm).2.1.2)))
      · simp only [hkv, decide_false, Bool.false_eq_true, if_false]
        refine wpAny_mono (add _ F11 (h9.trans h911) (by unfold groupStep; rw [hlast]; simp only [hkv, if_false])) (fun f_1 s'' q => ?_) fun _ _ q => q
        obtain ⟨rfl, q⟩ := q
        exact wpAny_execs_nil q
end
end Mine
end
section
open PySem PySem.W PySem.W.X PyProof.Rows
namespace Mine
noncomputable def nlV (P : Params) : Value := match (objAt P 324).data with
  | .seq vs _ => vs.getD 2 .none
  | _ => .none
section
variable {prog : Program} {w : World} {A : Around} {s : Shared}
theorem shadow_of_ns {dx : Addr} {mA : Str → Option Value} (hn : s.heap.Ns dx mA) (h : mA "getitem" = none) : ∃ od, s.heap.get? dx = some od ∧ isTab od = false ∧ shadowIn (some od) "getitem" = some false := by
  obtain ⟨o, es, ep, e, d, hk, hm⟩ := hn
  refine ⟨o, e, by unfold isTab; rw [d]; split <;> first | rfl | (rename_i q; cases q), ?_⟩
  have hf := hm "getitem"
  rw [h] at hf
  unfold shadowIn
  dsimp only
  unfold lookIn
  rw [d]
  dsimp only
  unfold nsFind findBy at hf
  have e1 : es.toList.find? (fun x => x.key.isStr "getitem") = none := by
    rw [Array.find?_toList]
    simpa using hf
  rw [e1]
  have e2 : es.toList.any (·.refKey) = false := by
    rw [List.any_eq_false]
    intro x hx
    obtain ⟨n, t, hh⟩ := hk x (by simpa using hx)
    simp [DictEntry.refKey, hh]
  simp [e2]
theorem Run.rebase {env : Env} {s₀ s₁ s : Shared} {m cm} (F : Run env s₁ m cm s) (h : Step0 s₀ s₁) : Run env s₀ m cm s := ⟨F.act, h.trans F.since, fun b hb => h.notThere (F.new b hb)⟩
/-- an instance of ValueEnvironment that is being filled -/
structure Fill (s₀ sE : Shared) (env : Env) (m cm : Str → Option Value) (x dx n : Nat) (s : Shared) : Prop where
  run : Run env s₀ m cm s
  inst : ∃ mA, IsInst s 379 x dx mA n ∧ mA "getitem" = none
  new : s₀.heap.get? dx = none
  newx : s₀.heap.get? x = none
  cold : ¬ Hot env dx
  coldx : ¬ Hot env x
  step : Step (fun b => Hot env b ∨ b = dx) sE s
theorem isInst_step {X : Addr → Prop} {s s' : Shared} {C x dx n : Nat} {mA} (h : IsInst s C x dx mA n) (st : Step X s s') (n1 : ¬ X x) (n2 : ¬ X dx) : IsInst s' C x dx mA n := by
  obtain ⟨hx, hn, o, es, ep, e, d, z⟩ := h
  exact ⟨st.keep _ _ hx rfl n1, Ns.stepX hn st n2, o, es, ep, st.keep _ _ e (by unfold isTab; rw [d]; split <;> first | rfl | (rename_i q; cases q)) n2, d, z⟩
theorem Fill.step0 {s₀ sE : Shared} {env : Env} {m cm} {x dx n : Nat} {s s' : Shared} (F : Fill s₀ sE env m cm x dx n s) (h : Step0 s s') : Fill s₀ sE env m cm x dx n s' :=
  ⟨F.run.step0 h, let ⟨mA, i, g⟩ := F.inst; ⟨mA, isInst_step i h id id, g⟩, F.new, F.newx, F.cold, F.coldx, F.step.trans h.up⟩
theorem fill_attr {s₀ sE : Shared} {env : Env} {m cm} {x dx n : Nat} {name self : Str} {p1 p2 pos : Pos} {value : Expr} {Q : Flow → Shared → Prop} (X : (KP w.params).In s₀.heap) (F : Fill s₀ sE env m cm x dx n s) (hm : m self = some (.ref x)) (hn : n < 64)
    (hv : ∀ Q' : Value → Shared → Prop, (∀ v s', Step0 s s' → Q' v s') → wpAny (model prog w) A (eval value env) Q' NoE s)
    (h : ∀ s', Fill s₀ sE env m cm x dx (n + 1) s' → Q .next s')
    (hne : decide (name = ("getitem" : Str)) = false := by kernel_rfl) (ht : takerIn (KP w.params) 379 name = some none := by kernel_rfl) (hs : swapsWith value (some (.Attribute (.Name self p1) name p2)) pos.line env = pure false := by rfl)
    (hk : env.scope.kind = .function := by kernel_rfl) (hl : env.kindOf self = some .local := by kernel_rfl) (hd : (self == ("__debug__" : Str)) = false := by kernel_rfl) :
    wpAny (model prog w) A (exec (.Assign [.Attribute (.Name self p1) name p2] value pos) env) Q NoE s := by
  refine plainObj_wpAny_Assign_Attribute (hv _ fun v s₁ h1 => ?_) hs
  have F1 := F.step0 h1
  obtain ⟨mA, hi, hg⟩ := F1.inst
  refine g_ld F1.run hm (op_setA (F1.run.K X) hi hn (fun s₂ hi2 h2 => h s₂ ⟨F1.run.stepX h2 (fun b e => e ▸ F.cold) (fun b e => e ▸ F.new), ⟨_, hi2, ?_⟩, F.new, F.newx, F.cold, F.coldx, F1.step.trans (h2.mono fun b e => .inr e)⟩) (by kernel_rfl) (by kernel_rfl) ht (by kernel_rfl)) hk hl hd
  have : ("getitem" : Str) ≠ name := fun e => (of_decide_eq_false hne) e.symm
  show (if ("getitem" : Str) = name then some v else mA "getitem") = none
  rw [if_neg this]; exact hg
theorem code_envinit {s₀ : Shared} {x dx n : Nat} {mA} {Q : Value → Shared → Prop} (R : Rm A 720 1100) (X : (KP w.params).In s₀.heap) (h0 : Step0 s₀ s) (hi : IsInst s 379 x dx mA n) (hg : mA "getitem" = none) (hn : n < 40) (nd : s₀.heap.get? dx = none) (nx : s₀.heap.get? x = none)
    (h : ∀ s' mA', Step0 s₀ s' → IsInst s' 379 x dx mA' (n + 9) → mA' "getitem" = none → Step (fun b => b = dx) s s' → Q .none s') :
    codeAny (model prog w) A (.call (.ref 331) ⟨[.ref x], []⟩) (Back Q) s := by
  refine code_at (meBody 27 0) (meScope 27 0) 331 (args := ⟨[.ref x], []⟩) (binds := [("self", .ref x), ("trim_blocks", .bool false), ("lstrip_blocks", .bool false), ("newline_sequence", (nlV w.params)), ("keep_trailing_newline", .bool false)]) (KP.step0 X h0)
    (Nat.lt_of_le_of_lt R.depth (by decide)) (by kernel_rfl) (fun L => List.forall_mem_cons.mpr ⟨.inl (by kernel_rfl), List.forall_mem_cons.mpr ⟨.inl (by kernel_rfl), List.forall_mem_cons.mpr ⟨.inl (by kernel_rfl), List.forall_mem_cons.mpr ⟨.inl (by kernel_rfl), List.forall_mem_cons.mpr ⟨.inl (by kernel_rfl), List.forall_mem_nil _⟩⟩⟩⟩⟩)
    (fun L hL s₁ F0 => ?_)
  have dxs : ∃ o, s.heap.get? dx = some o := let ⟨_, ⟨o, _, _, e, _⟩, _⟩ := hi; ⟨o, e⟩
  have F : Fill s₀ s (EVs (meScope 27 0) 331 w.params L) _ _ x dx n s₁ := ⟨F0.rebase h0, ⟨mA, isInst_step hi F0.since id id, hg⟩, nd, nx, F0.cold dxs.choose_spec, F0.cold hi.1, F0.since.up⟩
  refine wpAny_execs_cons (fill_attr X F (by kernel_rfl) (by omega) (fun Q' k => g_ld F.run (v := .bool false) (by kernel_rfl) (k _ _ (Step.refl _ _))) fun s₂ F => ?_)
  refine wpAny_execs_cons (fill_attr X F (by kernel_rfl) (by omega) (fun Q' k => g_ld F.run (v := .bool false) (by kernel_rfl) (k _ _ (Step.refl _ _))) fun s₂ F => ?_)
  refine wpAny_execs_cons (fill_attr X F (by kernel_rfl) (by omega) (fun Q' k => g_ld F.run (v := nlV w.params) (by kernel_rfl) (k _ _ (Step.refl _ _))) fun s₂ F => ?_)
  refine wpAny_execs_cons (fill_attr X F (by kernel_rfl) (by omega) (fun Q' k => g_ld F.run (v := .bool false) (by kernel_rfl) (k _ _ (Step.refl _ _))) fun s₂ F => ?_)
  refine wpAny_execs_cons (fill_attr X F (by kernel_rfl) (by omega) (fun Q' k => wpAny_Constant_bool (k _ _ (Step.refl _ _))) fun s₂ F => ?_)
  refine wpAny_execs_cons (fill_attr X F (by kernel_rfl) (by omega) (fun Q' k => wpAny_Constant_bool (k _ _ (Step.refl _ _))) fun s₂ F => ?_)
  refine wpAny_execs_cons (fill_attr X F (by kernel_rfl) (by omega) (fun Q' k => wpAny_Constant_bool (k _ _ (Step.refl _ _))) fun s₂ F => ?_)
  refine wpAny_execs_cons (fill_attr X F (by kernel_rfl) (by omega) (fun Q' k => Tuple_ (spliced_none (wpAny_newTuple (k _ _ (Step0.push _ _))))) fun s₂ F => ?_)
  refine wpAny_execs_cons (fill_attr X F (by kernel_rfl) (by omega) (fun Q' k => Tuple_ (spliced_none (wpAny_newTuple (k _ _ (Step0.push _ _))))) fun s₂ F => wpAny_execs_nil ?_)
  obtain ⟨mA', hi', hg'⟩ := F.inst
  exact h s₂ mA' F.run.since hi' hg' (F.step.new fun b hb nb => hb.elim (fun hh => F0.new b hh) fun e => absurd e nb)
end
end Mine
end
section
open PySem PySem.W PySem.W.X PyProof.Rows
namespace Mine
abbrev prog0 : Program := PySem.Challenge.rw_bw0018_01.row.prog
section
variable {w : World} {A : Around} {s : Shared}
def veArg : PySem.Arg := match meAt 28 0 with
  | .FunctionDef _ a _ _ _ _ _ _ _ _ => a.args.headD ⟨"", none, ⟨0, 0, 0, 0⟩⟩
  | _ => ⟨"", none, ⟨0, 0, 0, 0⟩⟩
noncomputable def veFile (P : Params) : Str := match (recAt P 368).getD 2 .none with
  | .str f _ => f
  | _ => ""
noncomputable def veTok (P : Params) : Tok := match (recAt P 368).getD 2 .none with
  | .str _ t => t
  | _ => 0
noncomputable def undV (P : Params) : Value := ((nsIn (KP P) mainGlobals "Undefined").getD none).getD .none
noncomputable def clsAt (P : Params) : ClassData := match (objAt P 379).data with
  | .cls c => c
  | _ => default
theorem ldn_built {M : Model} {E : Value → Shared → Prop} {env : Env} {K : Frag} {x : Str} {v : Value} {Q : Value → Shared → Prop} (X : K.In s.heap) (e : nsIn K mainGlobals x = some none) (e2 : nsIn K builtinsNs x = some (some v)) (h : Q v s)
    (hk : env.scope.kind = .function) (hl : env.kindOf x = some .globalImplicit) (hg : env.globals = mainGlobals) (hb : env.builtins = builtinsNs) : wpAny M A (loadName env x) Q E s := by
  refine ks_loadName_global hk hl ?_
  unfold loadGlobal
  rw [hg, hb]
  exact wpAny_bind (nsGet_K X e (wpAny_bind (nsGet_K X e2 (wpAny_pure h))))
theorem code_veinit {s₀ : Shared} {x dx n : Nat} {mA} {Q : Value → Shared → Prop} (R : Rm A 719 1090) (X : (KP w.params).In s₀.heap) (h0 : Step0 s₀ s) (hi : IsInst s 379 x dx mA n) (hg : mA "getitem" = none) (hn : n < 30) (nd : s₀.heap.get? dx = none) (nx : s₀.heap.get? x = none) (h4 : 406 ≤ x)
    (h : ∀ s' mA', Step0 s₀ s' → IsInst s' 379 x dx mA' (n + 10) → mA' "getitem" = none → Q .none s') :
    codeAny (model prog0 w) A (.call (.ref 369) ⟨[.ref x], []⟩) (Back Q) s := by
  have X1 := KP.step0 X h0
  obtain ⟨fd, hfd⟩ : ∃ fd, fd = fdAt w.params 369 := ⟨_, rfl⟩
  have ho : s.heap.get? 369 = some (objAt w.params 369) := X1 _ _ (by kernel_rfl)
  have hd : (objAt w.params 369).data = .func fd := by rw [hfd]; kernel_rfl
  have hcat : s.heap.CodeRec fd.code fd.qualname := by rw [hfd]; exact codeRec_of X1 (by kernel_rfl)
  have hbind : peek (KP w.params) ⟨prog0, w.params⟩ (bindArgs fd ⟨[.ref x], []⟩) = some [(("self" : Str), Value.ref x)] := by rw [hfd]; kernel_rfl
  have hbody : fd.body = .stmts (meBody 28 0) := by rw [hfd]; kernel_rfl
  have hsc : fd.scope = meScope 28 0 := by rw [hfd]; kernel_rfl
  have hgl : fd.globals = mainGlobals := by rw [hfd]; kernel_rfl
  have hbi : fd.builtins = builtinsNs := by rw [hfd]; kernel_rfl
  have hco : fd.code = .ref 368 := by rw [hfd]; kernel_rfl
  have hpar : (fd.params.posonlyargs ++ fd.params.args).head? = some veArg := by rw [hfd]; kernel_rfl
  have hclo : (iEnv fd 369 0).cells.lookup ("__class__" : Str) = some 357 := by show fd.closure.lookup _ = _; rw [hfd]; kernel_rfl
  have hself : fd.scope.names.lookup ("self" : Str) = some .local := by rw [hsc]; kernel_rfl
  have harg : veArg.arg = ("self" : Str) := by kernel_rfl
  clear hfd
  refine codeAny_call_function (Nat.lt_of_le_of_lt R.depth (by decide)) ho hd (by rw [hsc]; kernel_rfl) (by rw [hsc]; kernel_rfl) hbody hcat ?_
  refine (Looks.of_peek (M := model prog0 w) X1 hbind).here ?_
  refine inner_env X1 hgl hbi (by rw [hsc]; kernel_rfl) (by rw [hsc]; kernel_rfl) (by rw [hsc]; exact List.forall_mem_cons.mpr ⟨by kernel_rfl, List.forall_mem_nil _⟩) fun L hL nL s₁ F0 => ?_
  refine ⟨noLimit (F0.K X1), ks_codeAny_funcAt ?_⟩
  have dxs : ∃ o, s.heap.get? dx = some o := let ⟨_, ⟨o, _, _, e, _⟩, _⟩ := hi; ⟨o, e⟩
  have F : Fill s₀ s (iEnv fd 369 L) _ _ x dx n s₁ := ⟨F0.rebase h0, ⟨mA, isInst_step hi F0.since id id, hg⟩, nd, nx, F0.cold dxs.choose_spec, F0.cold hi.1, F0.since.up⟩
  have henv1 : (iEnv fd 369 L).kindOf "super" = some .globalImplicit := by show fd.scope.names.lookup _ = _; rw [hsc]; kernel_rfl
  have henv2 : (iEnv fd 369 L).kindOf "__class__" = some .free := by show fd.scope.names.lookup _ = _; rw [hsc]; kernel_rfl
  have hint : interactive (iEnv fd 369 L) = false := by unfold interactive; rw [show (iEnv fd 369 L).scope = fd.scope from rfl, hsc]; kernel_rfl
  have X2 := F0.K X1
  have hc1 : s₁.heap.get? 368 = some (objAt w.params 368) := X2 _ _ (by kernel_rfl)
  have hc2 : (objAt w.params 368).data = .fields (recAt w.params 368) := by kernel_rfl
  have hc3 : (recAt w.params 368)[2]? = some (.str (veFile w.params) (veTok w.params)) := by kernel_rfl
  have hf1 : s₁.heap.get? 369 = some (objAt w.params 369) := X2 _ _ (by kernel_rfl)
  refine ks_wpAt_execs_cons (ks_wpAt_Expr_any (hi := hint) (ks_wpAt_MethodCall (ks_wpAt_super_base (f := 369) (cc := 368) henv1 henv2 (by kernel_rfl) rfl hf1 hd hpar hco hc1 hc2 hc3 (by kernel_rfl) (by kernel_rfl) ?_)))
  have hk : (iEnv fd 369 L).scope.kind = .function := by rw [show (iEnv fd 369 L).scope = fd.scope from rfl, hsc]; kernel_rfl
  refine ldn_built X2 (by kernel_rfl) (by kernel_rfl) ⟨rfl, ?_⟩ hk henv1 rfl rfl
  have hund : (iEnv fd 369 L).kindOf "Undefined" = some .globalImplicit := by show fd.scope.names.lookup _ = _; rw [hsc]; kernel_rfl
  have hcell : s₁.heap.IsCell 357 (some (.ref 379)) := ⟨_, X2 357 (objAt w.params 357) (by kernel_rfl), by kernel_rfl⟩
  refine wpAny_loadName_free hk henv2 hclo hcell ?_ (by kernel_rfl)
  rw [harg]
  refine wpAny_loadName_local hk hself F.run.act.ns (v := .ref x) (by rfl) ?_
  have hcls : s₁.heap.get? 379 = some (objAt w.params 379) := X2 _ _ (by kernel_rfl)
  have hcd : (objAt w.params 379).data = .cls (clsAt w.params) := by kernel_rfl
  refine ks_wpAny_isType_cls hcls hcd ⟨rfl, ?_⟩
  obtain ⟨mA1, hi1, hg1⟩ := F.inst
  obtain ⟨hh, gg, dd, tt, oo⟩ := s₁
  refine ks_wpAny_call_super hcls hcd hi1.1 rfl (fun c e => by cases e) (looks_mroIn X2 (by kernel_rfl)) (fun h' e k => ?_)
  have st2 : Step0 ⟨hh, gg, dd, tt, oo⟩ ⟨h', gg, dd, tt, oo⟩ := Step0.of_heap (s := ⟨hh, gg, dd, tt, oo⟩) k
  have F2 := F.step0 st2
  have X3 := F2.run.K X
  refine ks_wpAny_getMethod_super (K := KP w.params) (l₀ := (clsAt w.params).mro) (f := 331) e (looks_opaque X3 (by kernel_rfl)) ?_ rfl X3 (by kernel_rfl) (X3 331 (objAt w.params 331) (by kernel_rfl)) (by kernel_rfl) (fun q => ?_) (by kernel_rfl) ?_
  · exact fun A Q E s k q => wpAny_bind ((looks_clsIn X3 (show clsIn (KP w.params) 379 = some (clsAt w.params) by kernel_rfl)) A _ E s k (wpAny_pure q))
  · rw [q] at h4; exact absurd h4 (by decide)
  have st3 : Step0 ⟨h', gg, dd, tt, oo⟩ ⟨h'.push { cls := .type "method", data := .fields #[.ref 331, .ref x] }, gg, dd, tt + 1, oo⟩ := (Step0.push ⟨h', gg, dd, tt, oo⟩ _).trans (Step0.toks _ (tt + 1))
  have F3 := F2.step0 st3
  have X4 := F3.run.K X
  have hm : (h'.push { cls := .type "method", data := .fields #[.ref 331, .ref x] }).get? h'.objs.size = some (methodObj (.ref 331) (.ref x)) := Heap.get?_push_at rfl rfl
  generalize hs3 : (⟨h'.push { cls := .type "method", data := .fields #[.ref 331, .ref x] }, gg, dd, tt + 1, oo⟩ : Shared) = s₃ at F3 X4
  have hm3 : s₃.heap.get? h'.objs.size = some (methodObj (.ref 331) (.ref x)) := by rw [← hs3]; exact hm
  refine callWith_M0 (K := KP w.params) (g := 331) (self := .ref x) ⟨hm3, X4⟩ (by kernel_rfl) ?_
  refine wpAny_call (ks_codeAny_call_bound hm3 ?_)
  have hi3 : ∃ mA, IsInst s₃ 379 x dx mA n ∧ mA "getitem" = none := F3.inst
  obtain ⟨mA3, hi3, hg3⟩ := hi3
  refine codeAny_mono (code_envinit (Q := fun v s' => v = .none ∧ Step0 s₀ s' ∧ ∃ mA', IsInst s' 379 x dx mA' (n + 9) ∧ mA' "getitem" = none ∧ Step (fun b => b = dx) s₃ s') (R.deeper _).mono X F3.run.since hi3 hg3 (by omega) nd nx
    (fun s' mA' h1 h2 h3 h4 => ⟨rfl, h1, mA', h2, h3, h4⟩)) (fun r s₄ hr => ?_)
  rcases r with e | (v | _ | _ | _) <;> first | exact hr.elim | skip
  obtain ⟨rfl, h4, mA4, hi4, hg4, st4⟩ := hr
  have F4 : Fill s₀ s (iEnv fd 369 L) _ _ x dx (n + 9) s₄ := ⟨F3.run.stepX st4 (fun b e => e ▸ F3.cold) (fun b e => e ▸ nd), ⟨mA4, hi4, hg4⟩, nd, nx, F3.cold, F3.coldx, F3.step.trans (st4.mono fun b e => .inr e)⟩
  refine wpAt_of_wpAny (noE (wpAny_execs_cons (fill_attr X F4 (by rfl) (by omega) (fun Q' k => g_glob F4.run X (undV w.params) (k _ _ (Step.refl _ _)) (by kernel_rfl) hk hund rfl) (fun s₅ F5 => wpAny_execs_nil ?_) (by kernel_rfl) (by kernel_rfl) (by rfl) hk hself)))
  obtain ⟨mA5, hi5, hg5⟩ := F5.inst
  exact h s₅ mA5 F5.run.since hi5 hg5
theorem dict_ns {h : Heap} {dx : Addr} (e : h.get? dx = some emptyDict) : h.Ns dx (fun _ => none) := ⟨_, #[], _, e, rfl, fun e he => by simp at he, fun x => by simp [nsFind, findBy]⟩
def WorldAt (s : Shared) (r d : Addr) : Prop := ∃ od, s.heap.get? r = some ⟨.ref 379, some d, .plain, #[]⟩ ∧ s.heap.get? d = some od ∧ isTab od = false ∧ shadowIn (some od) "getitem" = some false
theorem WorldAt.is {s : Shared} {r d} (h : WorldAt s r d) : IsWorld s r := let ⟨od, a⟩ := h; ⟨d, od, a⟩
theorem WorldAt.step {X : Addr → Prop} {s s' : Shared} {r d} (h : WorldAt s r d) (st : Step X s s') (n1 : ¬ X r) (n2 : ¬ X d) : WorldAt s' r d := let ⟨od, a, b, c, e⟩ := h; ⟨od, st.keep _ _ a rfl n1, st.keep _ _ b c n2, c, e⟩
theorem WorldAt.step0 {s s' : Shared} {r d} (h : WorldAt s r d) (st : Step0 s s') : WorldAt s' r d := h.step st id id
theorem c_world {Q : Value → Shared → Prop} (R : Rm A 700 1000) (X : (KP w.params).In s.heap) (h : ∀ x d s', Step0 s s' → WorldAt s' x d → s.heap.get? x = none → s.heap.get? d = none → Q (.ref x) s') :
    wpAny (model prog0 w) A (call (.ref 379) []) Q NoE s := by
  obtain ⟨hh, g, d, t, os⟩ := s
  have st : Step0 ⟨hh, g, d, t, os⟩ ⟨(hh.push emptyDict).push (instObj 379 hh.objs.size), g, d, t, os⟩ := (Step0.push ⟨hh, g, d, t, os⟩ emptyDict).trans (Step0.push _ _)
  have nd : hh.get? hh.objs.size = none := Heap.get?_none_of_le (Nat.le_refl _)
  have nx : hh.get? (hh.objs.size + 1) = none := Heap.get?_none_of_le (Nat.le_succ _)
  have ed : ((hh.push emptyDict).push (instObj 379 hh.objs.size)).get? hh.objs.size = some emptyDict := Heap.get?_push_of_some _ (Heap.get?_push_size _ rfl)
  have ex : ((hh.push emptyDict).push (instObj 379 hh.objs.size)).get? (hh.objs.size + 1) = some (instObj 379 hh.objs.size) := by
    have := Heap.get?_push_size (hh.push emptyDict) (o := instObj 379 hh.objs.size) rfl
    rwa [Heap.size_push] at this
  refine wpAny_call (make_core (init := .ref 369) (makes_of X (by kernel_rfl)) (looks_findIn X (by kernel_rfl)) (fun self => bind_fn X self (by kernel_rfl)) (.inl rfl) ?_)
  refine codeAny_mono (code_veinit (n := 0) (dx := hh.objs.size) (Q := fun v s' => v = .none ∧ Q (.ref (hh.objs.size + 1)) s') ?_ X st ⟨ex, dict_ns ed, _, #[], _, ed, rfl, Nat.le_refl _⟩ rfl (by decide) nd nx (Nat.le_succ_of_le (size_ge X)) fun s' mA' h1 h2 h3 => ⟨rfl, h _ hh.objs.size s' h1 ?_ nx nd⟩) (fun r s' hr => ?_)
  · exact ⟨R.handled, Nat.le_trans (Nat.add_le_add_right R.depth _) (by decide), Nat.le_trans (Nat.add_le_add_right R.units _) (by decide)⟩
  · obtain ⟨od, e1, e2, e3⟩ := shadow_of_ns h2.2.1 h3
    exact ⟨od, h2.1, e1, e2, e3⟩
  · rcases r with e | (v | _ | _ | _) <;> first | exact hr.elim | exact hr
end
end Mine
end
section
open PySem PySem.W PySem.W.X PyProof.Rows
namespace Mine
/-! list.sort as a tree of questions: it is stable -/
section
variable {α β : Type} (n : Nat) (ρ : Nat → Int)
/-- every question of t is of numbers below n; answered by ρ, t ends in P -/
def Fair : KasT α → (α → Prop) → Prop
  | .ret a, P => P a
  | .ask i j k, P => i < n ∧ j < n ∧ Fair (k (decide (ρ i < ρ j))) P
theorem fair_bind {f : α → KasT β} {P : β → Prop} : ∀ (t : KasT α), Fair n ρ t (fun a => Fair n ρ (f a) P) → Fair n ρ (t.bind f) P
  | .ret _, h => h
  | .ask _ _ k, h => ⟨h.1, h.2.1, fair_bind (k _) h.2.2⟩
theorem fair_mono {P P' : α → Prop} (hp : ∀ a, P a → P' a) : ∀ (t : KasT α), Fair n ρ t P → Fair n ρ t P'
  | .ret _, h => hp _ h
  | .ask _ _ k, h => ⟨h.1, h.2.1, fair_mono hp (k _) h.2.2⟩
theorem kasWp_of_fair {cmp : Nat → Nat → (Bool → Shared → Prop) → Shared → Prop} {I : Shared → Prop} {P : α → Prop} {Q : α → Shared → Prop}
    (hc : ∀ i j C s, i < n → j < n → I s → (∀ s', I s' → C (decide (ρ i < ρ j)) s') → cmp i j C s) (hq : ∀ a s', P a → I s' → Q a s') : ∀ (t : KasT α) (s : Shared), I s → Fair n ρ t P → t.kasWp cmp Q s
  | .ret a, s, hi, h => hq a s h hi
  | .ask i j k, s, hi, h => hc i j _ s h.1 h.2.1 hi fun s' hi' => kasWp_of_fair hc hq (k _) s' hi' h.2.2
/-- before: by ρ, then by place -/
def Bef (a b : Nat) : Prop := ρ a < ρ b ∨ (ρ a = ρ b ∧ a < b)
variable {n ρ}
theorem Bef.trans {a b c : Nat} (h : Bef ρ a b) (k : Bef ρ b c) : Bef ρ a c := by unfold Bef at *; omega
abbrev gt (p : Array Nat) (i : Nat) : Nat := p.getD i 0
def Own (n : Nat) (p : Array Nat) : Prop := p.Perm (List.range n).toArray
theorem Own.size {p : Array Nat} (h : Own n p) : p.size = n := by have := h.size_eq; simpa using this
theorem gt_of {p : Array Nat} {i : Nat} (hi : i < p.size) : gt p i = p[i] := by simp [gt, Array.getD, hi]
theorem Own.lt {p : Array Nat} (h : Own n p) {i : Nat} (hi : i < n) : gt p i < n := by
  have hs : i < p.size := by rw [h.size]; exact hi
  rw [gt_of hs]
  have : p[i] ∈ (List.range n).toArray.toList := (Array.perm_iff_toList_perm.mp h).mem_iff.mp (by simp)
  simpa using this
theorem Own.inj {p : Array Nat} (h : Own n p) {i j : Nat} (hi : i < n) (hj : j < n) (e : gt p i = gt p j) : i = j := by
  have hs : i < p.size := by rw [h.size]; exact hi
  have hs' : j < p.size := by rw [h.size]; exact hj
  rw [gt_of hs, gt_of hs'] at e
  have nd : p.toList.Nodup := (Array.perm_iff_toList_perm.mp h).nodup_iff.mpr (by simpa using List.nodup_range)
  exact (List.getElem_inj (xs := p.toList) (h₀ := by simpa using hs) (h₁ := by simpa using hs') nd).mp (by simpa using e)
/-- as at the start from x on -/
def Old (n : Nat) (p : Array Nat) (x : Nat) : Prop := ∀ i, x ≤ i → i < n → gt p i = i
theorem Own.low {p : Array Nat} (h : Own n p) {x i : Nat} (o : Old n p x) (hi : i < x) (hx : x ≤ n) : gt p i < x := by
  rcases Nat.lt_or_ge (gt p i) x with q | q
  · exact q
  · have l := h.lt (i := i) (by omega)
    have := h.inj (by omega) l ((o _ q l).symm)
    omega
def Up (ρ : Nat → Int) (p : Array Nat) (x : Nat) : Prop := ∀ i j, i < j → j < x → Bef ρ (gt p i) (gt p j)
def Dn (ρ : Nat → Int) (p : Array Nat) (x : Nat) : Prop := ∀ i j, i < j → j < x → Bef ρ (gt p j) (gt p i)
theorem gt_rev {p : Array Nat} {i j : Nat} (hj : j ≤ p.size) (k : Nat) : gt (kas_rev p i j) k = if i ≤ k ∧ k < j then gt p (i + j - 1 - k) else gt p k := by
  have e := getElem?_mirror_all (xs := p) (i := i) hj k
  have g : ∀ (q : Array Nat) m, gt q m = (q[m]?).getD 0 := fun q m => by simp [gt]
  rw [g, g, g]
  unfold kas_rev
  rw [e]
  split <;> rfl
theorem gt_bub {p : Array Nat} {k l : Nat} (hk : k < p.size) (hl : l ≤ k) (i : Nat) : gt (bubble p k (k - l)) i = if i = l then gt p k else if l < i ∧ i ≤ k then gt p (i - 1) else gt p i := by
  have e := getElem?_bubble hk (k - l) (by omega) i
  have g : ∀ (q : Array Nat) m, gt q m = (q[m]?).getD 0 := fun q m => by simp [gt]
  rw [show k - (k - l) = l by omega] at e
  rw [g, g, g, g, e]
  repeat' split
  all_goals rfl
theorem Own.rev {p : Array Nat} (h : Own n p) (i j : Nat) : Own n (kas_rev p i j) := (mirror_perm p i j _).trans h
theorem Own.bub {p : Array Nat} (h : Own n p) (k d : Nat) : Own n (bubble p k d) := (bubble_perm p k d).trans h
theorem Old.rev {p : Array Nat} (h : Own n p) {i j : Nat} (o : Old n p j) (hj : j ≤ n) : Old n (kas_rev p i j) j := fun k hk hn => by
  rw [gt_rev (by rw [h.size]; exact hj), if_neg (by omega)]; exact o k hk hn

theorem f_asc {p : Array Nat} (h : Own n p) {P : Nat → Prop} : ∀ (f m : Nat), 1 ≤ m → m + f ≤ n → Up ρ p m → Old n p m → (∀ r, m ≤ r → r ≤ m + f → Up ρ p r → Old n p r → (r = m + f ∨ (r < n ∧ ρ r < ρ (gt p (r - 1)))) → P r) → Fair n ρ (kas_asc p f m) P
  | 0, m, _, _, u, o, k => k m (Nat.le_refl _) (Nat.le_refl _) u o (.inl rfl)
  | f + 1, m, h1, hf, u, o, k => by
    have om : gt p m = m := o m (Nat.le_refl _) (by omega)
    have lm : gt p (m - 1) < m := h.low o (by omega) (by omega)
    refine ⟨by show gt p m < n; omega, by show gt p (m - 1) < n; omega, ?_⟩
    show Fair n ρ (if decide (ρ (gt p m) < ρ (gt p (m - 1))) = true then KasT.ret m else kas_asc p f (m + 1)) P
    rw [om]
    by_cases q : ρ m < ρ (gt p (m - 1))
    · rw [if_pos (by simpa using q)]
      exact k m (Nat.le_refl _) (by omega) u o (.inr ⟨by omega, q⟩)
    · rw [if_neg (by simpa using q)]
      refine f_asc h f (m + 1) (by omega) (by omega) (fun i j hij hj => ?_) (fun i hi => o i (by omega)) fun r a b c d e => k r (by omega) (by omega) c d (e.imp (fun e => by omega) id)
      by_cases hj' : j < m
      · exact u i j hij hj'
      · obtain rfl : j = m := by omega
        have last : Bef ρ (gt p (j - 1)) (gt p j) := by unfold Bef; rw [om]; omega
        by_cases hi : i = j - 1
        · rw [hi]; exact last
        · exact (u i (j - 1) (by omega) (by omega)).trans last
/-- the block of equals that stands last, the rest falling -/
structure DInv (n : Nat) (ρ : Nat → Int) (p : Array Nat) (m q : Nat) : Prop where
  own : Own n p
  pos : q + 1 ≤ m
  top : m ≤ n
  old : Old n p (m - (q + 1))
  dn : Dn ρ p (m - (q + 1))
  eq : ∀ i, m - (q + 1) ≤ i → i < m → ρ i = ρ (m - 1)
  lo : ∀ i, i < m - (q + 1) → ρ (m - 1) < ρ (gt p i)
theorem DInv.turned {p : Array Nat} {m q : Nat} (D : DInv n ρ p m q) : Own n (kas_rev p (m - (q + 1)) m) ∧ Old n (kas_rev p (m - (q + 1)) m) m ∧ Dn ρ (kas_rev p (m - (q + 1)) m) m := by
  have hs : m ≤ p.size := by rw [D.own.size]; exact D.top
  have hp := D.pos
  have ht := D.top
  refine ⟨D.own.rev _ _, Old.rev D.own (fun i hi => D.old i (by omega)) ht, fun i j hij hj => ?_⟩
  rw [gt_rev hs, gt_rev hs]
  by_cases hj' : m - (q + 1) ≤ j
  · rw [if_pos ⟨hj', hj⟩]
    have e1 : gt p (m - (q + 1) + m - 1 - j) = m - (q + 1) + m - 1 - j := D.old _ (by omega) (by omega)
    have r1 := D.eq (m - (q + 1) + m - 1 - j) (by omega) (by omega)
    rw [e1]
    by_cases hi : m - (q + 1) ≤ i
    · rw [if_pos ⟨hi, by omega⟩]
      have e2 : gt p (m - (q + 1) + m - 1 - i) = m - (q + 1) + m - 1 - i := D.old _ (by omega) (by omega)
      have r2 := D.eq (m - (q + 1) + m - 1 - i) (by omega) (by omega)
      rw [e2]
      unfold Bef; right; constructor
      · rw [r1, r2]
      · omega
    · rw [if_neg (by omega)]
      unfold Bef; left; rw [r1]; exact D.lo i (by omega)
  · rw [if_neg (by omega), if_neg (by omega)]
    exact D.dn i j hij (by omega)
theorem DInv.zero {p : Array Nat} {m : Nat} (D : DInv n ρ p m 0) : Old n p m ∧ Dn ρ p m := by
  have hp := D.pos
  have ht := D.top
  refine ⟨fun i hi => D.old i (by omega), fun i j hij hj => ?_⟩
  by_cases hj' : j = m - 1
  · have e : gt p j = j := D.old j (by omega) (by omega)
    rw [e, hj']
    unfold Bef; left; exact D.lo i (by omega)
  · exact D.dn i j hij (by omega)
theorem f_desc {P : Array Nat × Nat × Nat → Prop} : ∀ (f : Nat) (p : Array Nat) (m q : Nat), DInv n ρ p m q → m + f ≤ n → (∀ p' m' q', DInv n ρ p' m' q' → m ≤ m' → m' ≤ m + f → P (p', m', q')) → Fair n ρ (kas_desc f p m q) P
  | 0, p, m, q, D, _, k => k p m q D (Nat.le_refl _) (Nat.le_refl _)
  | f + 1, p, m, q, D, hf, k => by
    have hp := D.pos
    have om : gt p m = m := D.old m (by omega) (by omega)
    have om1 : gt p (m - 1) = m - 1 := D.old (m - 1) (by omega) (by omega)
    have next : ∀ p', Own n p' → Old n p' m → Dn ρ p' m → (∀ i, i < m → ρ m < ρ (gt p' i)) → DInv n ρ p' (m + 1) 0 := fun p' a b c d =>
      ⟨a, by omega, by omega, b, c, fun i h1 h2 => by congr 1; omega, d⟩
    refine ⟨by show gt p m < n; omega, by show gt p (m - 1) < n; omega, ?_⟩
    show Fair n ρ (if decide (ρ (gt p m) < ρ (gt p (m - 1))) = true then (if q > 0 then kas_desc f (kas_rev p (m - (q + 1)) m) (m + 1) 0 else kas_desc f p (m + 1) 0)
      else .ask (gt p (m - 1)) (gt p m) fun d => if d = true then .ret (p, m, q) else kas_desc f p (m + 1) (q + 1)) P
    rw [om, om1]
    by_cases c : ρ m < ρ (m - 1)
    · rw [if_pos (by simpa using c)]
      have lower : ∀ i, i < m → ρ m < ρ (gt p i) := fun i hi => by
        by_cases hb : m - (q + 1) ≤ i
        · rw [D.old i hb (by omega), D.eq i hb hi]; exact c
        · have := D.lo i (by omega); omega
      by_cases hq : q > 0
      · rw [if_pos hq]
        obtain ⟨a, b, d⟩ := D.turned
        refine f_desc f _ (m + 1) 0 (next _ a b d fun i hi => ?_) (by omega) fun p' m' q' D' h1 h2 => k p' m' q' D' (by omega) (by omega)
        rw [gt_rev (by rw [D.own.size]; omega)]
        split
        · exact lower _ (by omega)
        · exact lower _ hi
      · rw [if_neg hq]
        obtain rfl : q = 0 := by omega
        obtain ⟨b, d⟩ := D.zero
        exact f_desc f p (m + 1) 0 (next p D.own b d lower) (by omega) fun p' m' q' D' h1 h2 => k p' m' q' D' (by omega) (by omega)
    · rw [if_neg (by simpa using c)]
      refine ⟨by omega, by omega, ?_⟩
      dsimp only
      by_cases c2 : ρ (m - 1) < ρ m
      · rw [if_pos (by simpa using c2)]
        exact k p m q D (Nat.le_refl _) (by omega)
      · rw [if_neg (by simpa using c2)]
        have e : m + 1 - (q + 1 + 1) = m - (q + 1) := by omega
        have em : ρ m = ρ (m - 1) := by omega
        refine f_desc f p (m + 1) (q + 1) ⟨D.own, by omega, by omega, by rw [e]; exact D.old, by rw [e]; exact D.dn, fun i h1 h2 => ?_, fun i hi => ?_⟩ (by omega) fun p' m' q' D' h1 h2 => k p' m' q' D' (by omega) (by omega)
        · show ρ i = ρ m
          by_cases hi : i = m
          · rw [hi]
          · rw [em]; exact D.eq i (by omega) (by omega)
        · show ρ m < _
          rw [em]; exact D.lo i (by omega)
theorem f_tail {p : Array Nat} {m : Nat} {P : Nat × Array Nat → Prop} (h : Own n p) (h1 : 1 ≤ m) (hm : m ≤ n) (d : Dn ρ p m) (o : Old n p m) (k : ∀ r p', Own n p' → 1 ≤ r → r ≤ n → Up ρ p' r → Old n p' r → P (r, p')) : Fair n ρ (kas_tail3 m n p) P := by
  unfold kas_tail3
  have hs : m ≤ p.size := by rw [h.size]; exact hm
  refine fair_bind n ρ _ (f_asc (h.rev 0 m) _ m h1 (by omega) (fun i j hij hj => ?_) (Old.rev h o hm) fun r a b c e _ => k r _ (h.rev 0 m) (by omega) (by omega) c e)
  rw [gt_rev hs, gt_rev hs, if_pos (by omega), if_pos (by omega)]
  exact d _ _ (by omega) (by omega)
theorem f_descPart {p : Array Nat} {m : Nat} {P : Nat × Array Nat → Prop} (h : Own n p) (h1 : 1 ≤ m) (hm : m + 1 ≤ n) (d : Dn ρ p m) (o : Old n p m) (lo : ∀ i, i < m → ρ m < ρ (gt p i)) (k : ∀ r p', Own n p' → 1 ≤ r → r ≤ n → Up ρ p' r → Old n p' r → P (r, p')) : Fair n ρ (kas_descPart m n p) P := by
  unfold kas_descPart
  refine fair_bind n ρ _ (f_desc _ p (m + 1) 0 ⟨h, by omega, hm, o, d, fun i h1 h2 => by congr 1; omega, lo⟩ (by omega) fun p' m' q' D a b => ?_)
  show Fair n ρ (if q' > 0 then kas_tail3 m' n (kas_rev p' (m' - (q' + 1)) m') else kas_tail3 m' n p') P
  have ht := D.top
  by_cases hq : q' > 0
  · rw [if_pos hq]
    obtain ⟨x, y, z⟩ := D.turned
    exact f_tail x (by omega) ht z y k
  · rw [if_neg hq]
    obtain rfl : q' = 0 := by omega
    obtain ⟨y, z⟩ := D.zero
    exact f_tail D.own (by omega) ht z y k
theorem gt_range {i : Nat} (hi : i < n) : gt (List.range n).toArray i = i := by simp [gt, Array.getD, hi]
theorem f_count {P : Nat × Array Nat → Prop} (h1 : 1 ≤ n) (k : ∀ r p', Own n p' → 1 ≤ r → r ≤ n → Up ρ p' r → Old n p' r → P (r, p')) : Fair n ρ (kas_count n (List.range n).toArray) P := by
  unfold kas_count
  have own : Own n (List.range n).toArray := Array.Perm.refl _
  have old : ∀ x, Old n (List.range n).toArray x := fun x i _ hi => gt_range hi
  refine fair_bind n ρ _ (f_asc own _ 1 (by omega) (by omega) (fun i j hij hj => by omega) (old 1) fun r a b u o e => ?_)
  show Fair n ρ (if (r == n) = true then .ret (r, (List.range n).toArray) else if r > 1 then .ask (gt (List.range n).toArray 0) (gt (List.range n).toArray (r - 1)) fun c => if c = true then .ret (r, (List.range n).toArray) else kas_descPart r n (kas_rev (List.range n).toArray 0 r)
    else kas_descPart r n (List.range n).toArray) P
  by_cases hr : r = n
  · rw [if_pos (by simpa using hr)]
    exact k r _ own (by omega) (by omega) u o
  · rw [if_neg (by simpa using hr)]
    have e' : ρ r < ρ (r - 1) := by
      rcases e with e | ⟨_, e⟩
      · omega
      · rwa [gt_range (by omega)] at e
    by_cases h2 : r > 1
    · rw [if_pos h2]
      rw [gt_range (by omega), gt_range (by omega)]
      refine ⟨by omega, by omega, ?_⟩
      dsimp only
      by_cases c : ρ 0 < ρ (r - 1)
      · rw [if_pos (by simpa using c)]
        exact k r _ own (by omega) (by omega) u o
      · rw [if_neg (by simpa using c)]
        have all : ∀ i, i < r → ρ i = ρ (r - 1) := fun i hi => by
          have le : ∀ i j, i ≤ j → j < r → ρ i ≤ ρ j := fun i j hij hj => by
            by_cases q : i = j
            · rw [q]; exact Int.le_refl _
            · have := u i j (by omega) hj
              rw [gt_range (by omega), gt_range (by omega)] at this
              unfold Bef at this; omega
          have a1 := le 0 i (by omega) hi
          have a2 := le i (r - 1) (by omega) (by omega)
          omega
        have hs : r ≤ (List.range n).toArray.size := by simp; omega
        have at' : ∀ i, i < r → gt (kas_rev (List.range n).toArray 0 r) i = r - 1 - i := fun i hi => by
          rw [gt_rev hs, if_pos (by omega), gt_range (by omega)]; omega
        refine f_descPart (own.rev 0 r) (by omega) (by omega) (fun i j hij hj => ?_) (Old.rev own (old r) (by omega)) (fun i hi => ?_) k
        · rw [at' i (by omega), at' j hj]
          unfold Bef; right
          exact ⟨(all _ (by omega)).trans (all _ (by omega)).symm, by omega⟩
        · rw [at' i hi, all (r - 1 - i) (by omega)]; exact e'
    · rw [if_neg h2]
      obtain rfl : r = 1 := by omega
      refine f_descPart own (by omega) (by omega) (fun i j hij hj => by omega) (old 1) (fun i hi => ?_) k
      obtain rfl : i = 0 := by omega
      rw [gt_range (by omega)]
      exact e'
theorem f_place {p : Array Nat} {k : Nat} (h : Own n p) (hk : k < n) (u : Up ρ p k) (ok : gt p k = k) {P : Nat → Prop} : ∀ (f l r : Nat), l ≤ r → r ≤ k → r - l ≤ f → (∀ i, i < l → ρ (gt p i) ≤ ρ k) → (∀ i, r ≤ i → i < k → ρ k < ρ (gt p i)) →
    (∀ l, l ≤ k → (∀ i, i < l → ρ (gt p i) ≤ ρ k) → (∀ i, l ≤ i → i < k → ρ k < ρ (gt p i)) → P l) → Fair n ρ (kas_place p k f l r) P
  | 0, l, r, hlr, hr, hf, lo, hi, fin => fin l (by omega) lo (by rw [show l = r by omega]; exact hi)
  | f + 1, l, r, hlr, hr, hf, lo, hi, fin => by
    unfold kas_place
    by_cases q : l ≥ r
    · rw [if_pos q]
      exact fin l (by omega) lo (by rw [show l = r by omega]; exact hi)
    · rw [if_neg q]
      have le : ∀ i j, i ≤ j → j < k → ρ (gt p i) ≤ ρ (gt p j) := fun i j hij hj => by
        by_cases q : i = j
        · rw [q]; exact Int.le_refl _
        · have := u i j (by omega) hj
          unfold Bef at this; omega
      refine ⟨by show gt p k < n; omega, h.lt (by omega), ?_⟩
      show Fair n ρ (if decide (ρ (gt p k) < ρ (gt p ((l + r) / 2))) = true then kas_place p k f l ((l + r) / 2) else kas_place p k f ((l + r) / 2 + 1) r) P
      rw [ok]
      by_cases c : ρ k < ρ (gt p ((l + r) / 2))
      · rw [if_pos (by simpa using c)]
        exact f_place h hk u ok f l ((l + r) / 2) (by omega) (by omega) (by omega) lo (fun i h1 h2 => Int.lt_of_lt_of_le c (le _ _ h1 h2)) fin
      · rw [if_neg (by simpa using c)]
        refine f_place h hk u ok f ((l + r) / 2 + 1) r (by omega) hr (by omega) (fun i h1 => ?_) hi fin
        have := le i ((l + r) / 2) (by omega) (by omega)
        omega
theorem f_bin {P : Array Nat → Prop} : ∀ (f : Nat) (p : Array Nat) (k : Nat), Own n p → 1 ≤ k → k + f = n → Up ρ p k → Old n p k → (∀ p', Own n p' → Up ρ p' n → P p') → Fair n ρ (kas_bin f p k) P
  | 0, p, k, h, _, hf, u, _, fin => fin p h (by rw [← hf]; exact u)
  | f + 1, p, k, h, h1, hf, u, o, fin => by
    have ok : gt p k = k := o k (Nat.le_refl _) (by omega)
    show Fair n ρ ((kas_place p k k 0 k).bind fun l => kas_bin f (bubble p k (k - l)) (k + 1)) P
    refine fair_bind n ρ _ (f_place h (by omega) u ok k 0 k (by omega) (Nat.le_refl _) (by omega) (fun i hi => by omega) (fun i h1 h2 => by omega) fun l hl lo hi => ?_)
    have hs : k < p.size := by rw [h.size]; omega
    refine f_bin f _ (k + 1) (h.bub k _) (by omega) (by omega) (fun i j hij hj => ?_) (fun i h1 h2 => ?_) fin
    · rw [gt_bub hs hl, gt_bub hs hl, ok]
      have lowk : ∀ i, i < k → gt p i < k := fun i hi => h.low o hi (by omega)
      have L : ∀ i, i < l → Bef ρ (gt p i) k := fun i h1 => by have := lo i h1; have := lowk i (by omega); unfold Bef; omega
      have H : ∀ i, l ≤ i → i < k → Bef ρ k (gt p i) := fun i h1 h2 => .inl (hi i h1 h2)
      by_cases c1 : i = l
      · rw [if_pos c1, if_neg (by omega), if_pos (by omega)]
        exact H _ (by omega) (by omega)
      · rw [if_neg c1]
        by_cases c2 : j = l
        · rw [if_pos c2, if_neg (by omega)]
          exact L i (by omega)
        · rw [if_neg c2]
          by_cases c3 : l < i ∧ i ≤ k
          · rw [if_pos c3, if_pos (by omega)]
            exact u _ _ (by omega) (by omega)
          · rw [if_neg c3]
            by_cases c4 : l < j ∧ j ≤ k
            · rw [if_pos c4]
              exact u _ _ (by omega) (by omega)
            · rw [if_neg c4]
              exact u _ _ hij (by omega)
    · rw [gt_bub hs hl, if_neg (by omega), if_neg (by omega)]
      exact o i (by omega) h2
theorem f_sort (h1 : 1 ≤ n) : Fair n ρ (kas_sort n) fun p => Own n p ∧ Up ρ p n := by
  unfold kas_sort
  refine fair_bind n ρ _ (f_count h1 fun r p' a b c u o => ?_)
  show Fair n ρ (if r < n then kas_bin (n - max r 1) p' (max r 1) else .ret p') _
  rw [show max r 1 = r by omega]
  by_cases hr : r < n
  · rw [if_pos hr]
    exact f_bin _ p' r a b (by omega) u o fun p'' x y => ⟨x, y⟩
  · rw [if_neg hr]
    obtain rfl : r = n := by omega
    exact ⟨a, u⟩
end
end Mine
end
section
open PySem PySem.W PySem.W.X PyProof.Rows
namespace Mine
/-! two stable orders of the same are the same -/
theorem Bef.asymm {ρ : Nat → Int} {a b : Nat} (h : Bef ρ a b) (k : Bef ρ b a) : False := by unfold Bef at *; omega
theorem stable_unique {ρ : Nat → Int} {l l' : List Nat} (p : l.Perm l') (h : l.Pairwise (Bef ρ)) (h' : l'.Pairwise (Bef ρ)) : l = l' :=
  List.Perm.eq_of_pairwise (fun a b _ _ x y => (x.asymm y).elim) h h' p
/-- the law's insertion -/
def ins {α : Type} (on : α → α → Bool) (done : List α) (row : α) : List α := done.take (done.takeWhile (on row)).length ++ [row] ++ done.drop (done.takeWhile (on row)).length
def insAll {α : Type} (on : α → α → Bool) (l : List α) : List α := l.foldl (ins on) []
theorem lawOrder_ins (κ : Value → Key) (b : Bool) (vs : List Value) : lawOrder κ b vs = insAll (goesOn κ b) vs := rfl
theorem ins_map {α β : Type} (f : α → β) (on : β → β → Bool) (done : List α) (row : α) : ins on (done.map f) (f row) = (ins (fun r d => on (f r) (f d)) done row).map f := by
  unfold ins
  have e : (List.takeWhile (on (f row)) (done.map f)).length = (done.takeWhile (fun d => on (f row) (f d))).length := by
    rw [List.takeWhile_map, List.length_map]; rfl
  rw [e]
  simp [List.map_take, List.map_drop]
theorem insAll_map {α β : Type} (f : α → β) (on : β → β → Bool) (l : List α) : insAll on (l.map f) = (insAll (fun r d => on (f r) (f d)) l).map f := by
  unfold insAll
  have : ∀ (l : List α) (acc : List α), (l.map f).foldl (ins on) (acc.map f) = (l.foldl (ins (fun r d => on (f r) (f d))) acc).map f := by
    intro l
    induction l with
    | nil => intro acc; rfl
    | cons a r ih => intro acc; rw [List.map_cons, List.foldl_cons, List.foldl_cons, ins_map, ih]
  exact this l []
theorem insAll_snoc {α : Type} (on : α → α → Bool) (l : List α) (a : α) : insAll on (l ++ [a]) = ins on (insAll on l) a := by unfold insAll; rw [List.foldl_append]; rfl
theorem ins_split {α : Type} (on : α → α → Bool) (done : List α) (row : α) : ins on done row = done.takeWhile (on row) ++ row :: done.dropWhile (on row) := by
  unfold ins
  have h := (List.takeWhile_append_dropWhile (p := on row) (l := done)).symm
  have h1 : done.take (done.takeWhile (on row)).length = done.takeWhile (on row) := (congrArg (List.take _) h).trans (List.take_left ..)
  have h2 : done.drop (done.takeWhile (on row)).length = done.dropWhile (on row) := (congrArg (List.drop _) h).trans (List.drop_left ..)
  rw [h1, h2, List.append_assoc]; rfl
theorem drop_hi {ρ : Nat → Int} {on : Nat → Bool} {n : Nat} : ∀ (l : List Nat), (∀ d ∈ l, on d = decide (ρ d ≤ ρ n)) → l.Pairwise (Bef ρ) → ∀ d ∈ l.dropWhile on, ρ n < ρ d
  | [], _, _, d, hd => by simp at hd
  | a :: r, ho, hp, d, hd => by
    rw [List.dropWhile_cons] at hd
    split at hd
    · exact drop_hi r (fun d h => ho d (.tail _ h)) (List.pairwise_cons.mp hp).2 d hd
    · rename_i c
      rw [ho a (.head _)] at c
      have ha : ρ n < ρ a := by simpa using c
      rcases List.mem_cons.mp hd with rfl | hd
      · exact ha
      · have := (List.pairwise_cons.mp hp).1 d hd
        unfold Bef at this; omega
theorem take_lo {on : Nat → Bool} : ∀ (l : List Nat), ∀ d ∈ l.takeWhile on, on d = true
  | [], d, hd => by simp at hd
  | a :: r, d, hd => by
    rw [List.takeWhile_cons] at hd
    split at hd
    · rename_i c
      rcases List.mem_cons.mp hd with rfl | hd
      · exact c
      · exact take_lo r d hd
    · simp at hd
theorem insAll_range {ρ : Nat → Int} {on : Nat → Nat → Bool} {N : Nat} (ho : ∀ r d, r < N → d < N → on r d = decide (ρ d ≤ ρ r)) : ∀ n, n ≤ N → (insAll on (List.range n)).Perm (List.range n) ∧ (insAll on (List.range n)).Pairwise (Bef ρ)
  | 0, _ => ⟨List.Perm.refl _, List.Pairwise.nil⟩
  | n + 1, hn => by
    obtain ⟨p, q⟩ := insAll_range ho n (by omega)
    rw [List.range_succ, insAll_snoc, ins_split]
    generalize insAll on (List.range n) = l at p q
    have mem : ∀ d ∈ l, d < n := fun d hd => by simpa using p.mem_iff.mp hd
    have on' : ∀ d ∈ l, on n d = decide (ρ d ≤ ρ n) := fun d hd => ho n d (by omega) (by have := mem d hd; omega)
    have split := List.takeWhile_append_dropWhile (p := on n) (l := l)
    have m1 : ∀ d ∈ l.takeWhile (on n), d ∈ l := fun d hd => by rw [← split]; exact List.mem_append_left _ hd
    constructor
    · have : (l.takeWhile (on n) ++ n :: l.dropWhile (on n)).Perm (l ++ [n]) := by
        refine List.perm_middle.trans ?_
        rw [split]
        exact (List.perm_append_singleton n l).symm
      exact this.trans (p.append_right _)
    · rw [List.pairwise_append]
      have q' := q
      rw [← split, List.pairwise_append] at q'
      refine ⟨q'.1, List.pairwise_cons.mpr ⟨fun d hd => .inl (drop_hi l on' q d hd), q'.2.1⟩, fun a ha b hb => ?_⟩
      rcases List.mem_cons.mp hb with rfl | hb
      · have := take_lo l a ha
        rw [on' a (m1 a ha)] at this
        have hlt := mem a (m1 a ha)
        have : ρ a ≤ ρ b := by simpa using this
        unfold Bef; omega
      · exact q'.2.2 a ha b hb
theorem order_of_stable {κ : Value → Key} {b : Bool} {vs : List Value} {ρ : Nat → Int} (hρ : ∀ r d, r < vs.length → d < vs.length → goesOn κ b (vs.getD r .none) (vs.getD d .none) = decide (ρ d ≤ ρ r))
    {q : List Nat} (hp : q.Perm (List.range vs.length)) (hq : q.Pairwise (Bef ρ)) : q.map (fun i => vs.getD i .none) = lawOrder κ b vs := by
  have e : vs = (List.range vs.length).map fun i => vs.getD i .none := by
    apply List.ext_getElem (by simp)
    intro i h1 h2
    simp [h1]
  rw [lawOrder_ins]
  conv => rhs; rw [e]
  rw [insAll_map]
  obtain ⟨p, r⟩ := insAll_range (on := fun r d => goesOn κ b (vs.getD r .none) (vs.getD d .none)) hρ vs.length (Nat.le_refl _)
  rw [stable_unique (hp.trans p.symm) hq r]
/-! keys as numbers: the law's texts are single letters -/
def Key.z : Key → Int
  | .i n => n
  | .s (c :: _) => c
  | .s [] => 0
def Key.One (k : Key) : Prop := ∀ l, k = .s l → ∃ c, l = [c]
theorem Key.lt_z {a b : Key} (ha : a.One) (hb : b.One) (h : a.same b = true) : a.lt b = decide (a.z < b.z) := by
  cases a <;> cases b <;> simp only [Key.same, Bool.false_eq_true] at h
  · rfl
  · obtain ⟨c, rfl⟩ := ha _ rfl
    obtain ⟨d, rfl⟩ := hb _ rfl
    simp only [Key.lt, Key.z]
    rw [Bool.eq_iff_iff]
    simp [List.cons_lt_cons_iff]
theorem Key.eq_z {a b : Key} (ha : a.One) (hb : b.One) (h : a.same b = true) : (a = b) ↔ a.z = b.z := by
  cases a <;> cases b <;> simp only [Key.same, Bool.false_eq_true] at h
  · simp [Key.z]
  · obtain ⟨c, rfl⟩ := ha _ rfl
    obtain ⟨d, rfl⟩ := hb _ rfl
    simp only [Key.s.injEq, List.cons.injEq, and_true, Key.z]
    omega
theorem Key.same_symm {a b : Key} (h : a.same b = true) : b.same a = true := by cases a <;> cases b <;> simp_all [Key.same]
theorem IsThing.one {v : Value} {k : Key} (h : IsThing v k) (b : Bool) : (k.lowIf b).One := by
  intro l e
  cases k with
  | i n => cases b <;> simp [Key.lowIf, Key.low] at e
  | s c =>
    have hl := h.2 c rfl
    cases b
    · simp only [Key.lowIf, Key.low, Bool.false_eq_true, if_false, Key.s.injEq] at e
      rcases hl with rfl | rfl | rfl | rfl | rfl | rfl <;> exact ⟨_, e.symm⟩
    · simp only [Key.lowIf, if_true, Key.s.injEq] at e
      rcases hl with rfl | rfl | rfl | rfl | rfl | rfl <;> exact ⟨_, e.symm⟩
/-- the law's order is any stable order by the keys' numbers -/
theorem order_of_keys {κ : Value → Key} {b : Bool} {vs : List Value} (h1 : ∀ v ∈ vs, (κ v).One) (hs : ∀ v ∈ vs, ∀ u ∈ vs, (κ v).same (κ u) = true) {q : List Nat} (hp : q.Perm (List.range vs.length))
    (hq : q.Pairwise (Bef fun i => if b then - (κ (vs.getD i .none)).z else (κ (vs.getD i .none)).z)) : q.map (fun i => vs.getD i .none) = lawOrder κ b vs := by
  refine order_of_stable (fun r d hr hd => ?_) hp hq
  have mr : vs.getD r .none ∈ vs := by simp [hr]
  have md : vs.getD d .none ∈ vs := by simp [hd]
  unfold goesOn Key.le
  cases b
  · simp only [Bool.false_eq_true, if_false]
    rw [Key.lt_z (h1 _ mr) (h1 _ md) (hs _ mr _ md), Bool.eq_iff_iff]
    simp
  · simp only [if_true]
    rw [Key.lt_z (h1 _ md) (h1 _ mr) (hs _ md _ mr), Bool.eq_iff_iff]
    simp
end Mine
end
section
open PySem PySem.W PySem.W.X PyProof.Rows
open AutoSeq1 (wpAny_loadPart')
namespace Mine
theorem eqAt_key {v u : Value} {k k' : Key} (hv : IsKey v k) (hu : IsKey u k') (hs : k.same k' = true) (A : Around) (s : Shared) : SeqAt.EqAt A s v u (decide (k = k')) := by
  intro prog w E Q hq
  cases k <;> cases k' <;> simp only [Key.same, Bool.false_eq_true] at hs
  · rename_i i j
    obtain ⟨t, rfl⟩ := hv
    obtain ⟨t', rfl⟩ := hu
    refine wpAny_eqBool_int ?_
    have e : (i == j) = decide (Key.i i = Key.i j) := by rw [Bool.eq_iff_iff]; simp
    rw [e]; exact hq
  · obtain ⟨x, t, rfl, rfl⟩ := hv
    obtain ⟨x', t', rfl, rfl⟩ := hu
    refine wpAny_eqBool_str ?_
    have e : decide (x = x') = decide (Key.s x.cps.toList = Key.s x'.cps.toList) := by
      rw [Bool.eq_iff_iff]
      simp only [decide_eq_true_eq, Key.s.injEq]
      exact ⟨fun h => by rw [h], fun h => str_of_codes h⟩
    rw [e]; exact hq
abbrev ones (xs : Array Value) (n : Nat) : Obj := { cls := .type "list", dict := none, data := .seq xs n, slots := #[] }
theorem lt_loop1 (l b : Addr) (xs ys : Array Value) (n n2 : Nat) (h1 : xs[(1 : Int).toNat]? = none) (h2 : ys[(1 : Int).toNat]? = none) (hz : xs.size = ys.size) :
    Meets (Builtin.«list.__eq__.loop» ⟨[.ref l, .ref b, rawInt (0 + 1), rawInt 0], []⟩)
      (fun _ R s => s.heap.get? l = some (ones xs n) ∧ s.heap.get? b = some (ones ys n2) ∧ R (.ok (.ret (.bool false))) s) := by
  intro prog w A R s h
  obtain ⟨hp, g, d, tk, os⟩ := s; obtain ⟨hl, hb, h⟩ := h
  wp_walk using wpAny_loadPart' hl, wpAny_loadPart' hb
  have h1' : xs[((0 : Int) + 1).toNat]? = none := h1
  have h2' : ys[((0 : Int) + 1).toNat]? = none := h2
  rw [h1', h2']
  wp_walk using wpAny_loadPart' hl, wpAny_loadPart' hb
  show R (.ok (.ret (.bool (decide (xs.size < ys.size))))) _
  rw [hz]
  simpa using h
theorem lt_loop0 (l b : Addr) (x y : Value) (xs ys : Array Value) (n n2 : Nat) (e c : Bool) (h1 : xs[(0 : Int).toNat]? = some x) (h2 : ys[(0 : Int).toNat]? = some y) (h3 : xs[(1 : Int).toNat]? = none) (h4 : ys[(1 : Int).toNat]? = none) (hz : xs.size = ys.size) :
    Meets (Builtin.«list.__eq__.loop» ⟨[.ref l, .ref b, rawInt 0, rawInt 0], []⟩)
      (fun A R s => s.heap.get? l = some (ones xs n) ∧ s.heap.get? b = some (ones ys n2) ∧
        SeqAt.EqAt A.in1 s x y e ∧ (e = false → ∀ (prog : Program) (w : World) (A : Around) (E : Value → Shared → Prop) (Q : Value → Shared → Prop), Q (.bool c) s → wpAny (model prog w) A (richCompare .Lt x y) Q E s) ∧
        R (.ok (.ret (.bool (if e then false else c)))) s) := by
  intro prog w A R s h
  obtain ⟨hp, g, d, tk, os⟩ := s; obtain ⟨hl, hb, he, hc, h⟩ := h
  wp_walk using wpAny_loadPart' hl, wpAny_loadPart' hb
  rw [h1, h2]
  refine wpAny_bind (he prog w _ _ ?_)
  cases e with
  | true =>
    wp_walk
    exact ⟨plainId_quiet MeetsSeq3.plain_eq_loop _, codeAny_builtin MeetsSeq3.entry_eq_loop (by
      rw [Around.under_plainId MeetsSeq3.plain_eq_loop _]
      exact lt_loop1 l b xs ys n n2 h3 h4 hz prog w A R _ ⟨hl, hb, h⟩)⟩
  | false =>
    simp only [Bool.false_eq_true, if_false]
    refine wpAny_bind (listItems_at hl rfl (wpAny_bind (listItems_at hb rfl ?_)))
    rw [h1, h2]
    exact wpAny_bind (hc rfl prog w _ _ _ (wpAny_pure h))
theorem list_lt1 (l b : Addr) (x y : Value) (n n2 : Nat) (e c : Bool) :
    Meets (Builtin.«list.__lt__» ⟨[.ref l, .ref b], []⟩)
      (fun A R s => s.heap.get? l = some (ones #[x] n) ∧ s.heap.get? b = some (ones #[y] n2) ∧
        SeqAt.EqAt A.in1 s x y e ∧ (e = false → ∀ (prog : Program) (w : World) (A : Around) (E : Value → Shared → Prop) (Q : Value → Shared → Prop), Q (.bool c) s → wpAny (model prog w) A (richCompare .Lt x y) Q E s) ∧
        R (.ok (.ret (.bool (if e then false else c)))) s) := by
  intro prog w A R s h
  obtain ⟨hp, g, d, tk, os⟩ := s; obtain ⟨hl, hb, he, hc, h⟩ := h
  have f3 := AutoSeq1.sub_list_list
  wp_walk using wpAny_loadPart' hl, wpAny_loadPart' hb
  exact ⟨plainId_quiet MeetsSeq3.plain_eq_loop _, codeAny_builtin MeetsSeq3.entry_eq_loop (by
    rw [Around.under_plainId MeetsSeq3.plain_eq_loop _]
    exact lt_loop0 l b x y #[x] #[y] n n2 e c rfl rfl rfl rfl rfl prog w A R _ ⟨hl, hb, he, hc, h⟩)⟩
/-- a key as sorted meets it: the key itself, or a list of it alone -/
def KV (lk : Bool) (Bad : Addr → Prop) (k : Key) (v : Value) (s : Shared) : Prop := if lk then ∃ r u, v = .ref r ∧ ¬ Bad r ∧ IsL s r [u] ∧ IsKey u k else IsKey v k
theorem KV.step {lk Bad k v} {s s' : Shared} {X : Addr → Prop} (h : KV lk Bad k v s) (st : Step X s s') (hx : ∀ b, X b → Bad b) : KV lk Bad k v s' := by
  cases lk
  · exact h
  · obtain ⟨r, u, e, nb, hl, hk⟩ := h
    exact ⟨r, u, e, nb, hl.step st fun x => nb (hx _ x), hk⟩
section
variable {prog : Program} {w : World} {A : Around} {s : Shared}
theorem lt_rc {v u : Value} {k k' : Key} (hv : IsKey v k) (hu : IsKey u k') (hs : k.same k' = true) {E : Value → Shared → Prop} {Q : Value → Shared → Prop} (hq : Q (.bool (k.lt k')) s) : wpAny (model prog w) A (richCompare .Lt v u) Q E s :=
  noE (cmp_lt hv hu hs hq)
theorem key_lt {lk : Bool} {Bad : Addr → Prop} {v u : Value} {k k' : Key} {Q : Bool → Shared → Prop} (hu' : A.units + 3 < cLine) (hv : KV lk Bad k v s) (hu : KV lk Bad k' u s) (hs : k.same k' = true) (h1 : k.One) (h2 : k'.One) (hq : Q (decide (k.z < k'.z)) s) :
    wpAny (model prog w) A (keyLt' oneType' v u) Q NoE s := by
  rw [← Key.lt_z h1 h2 hs] at hq
  cases lk
  · have hv : IsKey v k := hv
    have hu : IsKey u k' := hu
    cases k <;> cases k' <;> simp only [Key.same, Bool.false_eq_true] at hs
    · obtain ⟨t, rfl⟩ := hv
      obtain ⟨t', rfl⟩ := hu
      rw [keyLt'_oneType]
      exact oneLt_int hq
    · obtain ⟨x, t, rfl, rfl⟩ := hv
      obtain ⟨x', t', rfl, rfl⟩ := hu
      exact kas_lt_str hq
  · obtain ⟨r, x, rfl, _, ⟨n, hr⟩, hk⟩ := hv
    obtain ⟨r', y, rfl, _, ⟨n', hr'⟩, hk'⟩ := hu
    rw [keyLt'_oneType, oneLt'_eq]
    simp only [if_true]
    refine wpAny_bind (wpAny_cRoomFor (by omega) ?_)
    have ty : s.TypeIs (.ref r) "list" := ⟨_, hr, rfl⟩
    refine wpAny_bind (wpAny_callSpecialIfBound?_slot ty F.slot_list_lt ?_)
    refine call_meets F.slot_list_lt ty F.entry_list_lt (F.args_list_lt_2 _ _) (list_lt1 r r' x y n n' (decide (k = k')) (k.lt k')) ⟨hr, hr', eqAt_key hk hk' hs _ _, fun _ prog w A E Q hq => lt_rc hk hk' hs hq, ?_⟩
    refine wpAny_truthy_bool ?_
    by_cases e : k = k'
    · subst e
      have : k.lt k = false := by rw [Key.lt_z h1 h2 hs]; simp
      rw [this] at hq
      simpa using hq
    · simpa [e] using hq
end
end Mine
end
section
open PySem PySem.W PySem.W.X PyProof.Rows
namespace Mine
theorem Up.pairwise {n : Nat} {ρ : Nat → Int} {p : Array Nat} (o : Own n p) (u : Up ρ p n) : p.toList.Pairwise (Bef ρ) := by
  rw [List.pairwise_iff_getElem]
  intro i j hi hj hij
  have hi' : i < p.size := by simpa using hi
  have hj' : j < p.size := by simpa using hj
  have := u i j hij (by rw [← o.size]; exact hj')
  rw [gt_of hi', gt_of hj'] at this
  simpa using this
theorem Own.perm {n : Nat} {p : Array Nat} (o : Own n p) : p.toList.Perm (List.range n) := by simpa using Array.perm_iff_toList_perm.mp o
theorem rev_range (n : Nat) : ((List.range n).map fun i => n - 1 - i) = (List.range n).reverse := by
  apply List.ext_getElem (by simp)
  intro i h1 h2
  simp
theorem out_up {κ : Value → Key} {vs : List Value} {p : Array Nat} (h1 : ∀ v ∈ vs, (κ v).One) (hs : ∀ v ∈ vs, ∀ u ∈ vs, (κ v).same (κ u) = true) (o : Own vs.length p) (u : Up (fun i => (κ (vs.getD i .none)).z) p vs.length) :
    p.toList.map (fun i => vs.getD i .none) = lawOrder κ false vs :=
  order_of_keys h1 hs o.perm (by simpa using u.pairwise o)
theorem out_dn {κ : Value → Key} {vs : List Value} {p : Array Nat} (h1 : ∀ v ∈ vs, (κ v).One) (hs : ∀ v ∈ vs, ∀ u ∈ vs, (κ v).same (κ u) = true) (o : Own vs.length p) (u : Up (fun i => (κ (vs.getD (vs.length - 1 - i) .none)).z) p vs.length) :
    (p.toList.map (fun i => vs.getD (vs.length - 1 - i) .none)).reverse = lawOrder κ true vs := by
  have e : (p.toList.map (fun i => vs.getD (vs.length - 1 - i) .none)).reverse = (p.toList.reverse.map fun i => vs.length - 1 - i).map fun i => vs.getD i .none := by
    rw [List.map_map, ← List.map_reverse]; rfl
  rw [e]
  refine order_of_keys h1 hs ?_ ?_
  · refine ((List.reverse_perm _).trans o.perm).map (fun i => vs.length - 1 - i) |>.trans ?_
    rw [rev_range]
    exact List.reverse_perm _
  · rw [List.pairwise_map, List.pairwise_reverse]
    refine (u.pairwise o).imp_of_mem ?_
    intro a b ha hb h
    have la : a < vs.length := by simpa using o.perm.mem_iff.mp ha
    have lb : b < vs.length := by simpa using o.perm.mem_iff.mp hb
    simp only [if_true]
    unfold Bef at *
    dsimp only at h ⊢
    rcases h with h | ⟨h, h'⟩
    · left; omega
    · right; exact ⟨by omega, by omega⟩

/-- f answers for each of vs by a key, or by a new list of it alone -/
def KeyFnG (lk : Bool) (prog : Program) (w : World) (s : Shared) (f : Addr) (vs : List Value) (κ : Value → Key) : Prop :=
  IsFn s f ∧ ∀ v ∈ vs, ∀ (A : Around) (s' : Shared) (Q : Value → Shared → Prop), Rm A 700 1000 → Step0 s s' →
    (∀ r s'', Step0 s' s'' → (∀ Bad : Addr → Prop, (∀ b, Bad b → ∃ o, s'.heap.get? b = some o) → KV lk Bad (κ v) r s'') → Q r s'') → wpAny (model prog w) A (call (.ref f) [v]) Q NoE s'
theorem KeyFn.g {prog w s f vs κ} (h : KeyFn prog w s f vs κ) : KeyFnG false prog w s f vs κ := ⟨h.1, fun v hv A s' Q R st k => h.2 v hv A s' Q R st fun r s'' st' hr => k r s'' st' fun _ _ => hr⟩
def arrange (b : Bool) (n i : Nat) : Nat := if b then n - 1 - i else i
theorem kas_item_zip {b : Bool} {keys : Array Value} {vs : List Value} (hz : keys.size = vs.length) {i : Nat} (hi : i < vs.length) :
    kas_item (if b then (keys.zip vs.toArray).reverse else keys.zip vs.toArray) i = (keys.getD (arrange b vs.length i) .none, vs.getD (arrange b vs.length i) .none) := by
  have hzs : (keys.zip vs.toArray).size = vs.length := by simp [hz]
  have get : ∀ j, j < vs.length → ∀ (q : Array Keyed) (k : Nat), q[k]? = (keys.zip vs.toArray)[j]? → kas_item q k = (keys.getD j .none, vs.getD j .none) := by
    intro j hj q k e
    have e2 : (keys.zip vs.toArray)[j]? = some (keys[j]'(by omega), vs[j]) := by
      rw [Array.getElem?_eq_getElem (by omega)]
      simp
    unfold kas_item
    rw [e2] at e
    have e3 : q.getD k (Value.none, Value.none) = (q[k]?).getD (Value.none, Value.none) := by simp
    rw [e3, e]
    have hk : j < keys.size := by omega
    simp [Array.getD, hk, hj]
  cases b
  · exact get i hi _ _ rfl
  · simp only [if_true, arrange]
    refine get _ (by omega) _ _ ?_
    rw [Array.getElem?_reverse (by omega), hzs]

theorem Step.upd {s : Shared} {a : Addr} {xs : Array Value} {n : Nat} (ho : s.heap.get? a = some (seqObj "list" xs n)) (g : Obj → Obj) : Step (fun b => b = a) s { s with heap := s.heap.update a g } :=
  Step.of_same (t := s.toks) rfl (Heap.SameBut.update ..) fun o e => by rw [ho] at e; cases e; rfl
section
variable {prog : Program} {w : World} {A : Around} {s : Shared} {E : Value → Shared → Prop}
theorem c_tail {P : PySem.Fin → Shared → Prop} {s₀ : Shared} {a kS : Addr} {b : Bool} {st : SortSt} {keys : Array Value} {e e1 : Nat} {out : List Value} (h0 : Step0 s₀ s) (na : s₀.heap.get? a = none) (nk : s₀.heap.get? kS = none) (hka : kS ≠ a)
    (ha : s.heap.get? a = some (seqObj "list" #[] e1)) (hk : s.heap.get? kS = some (seqObj "list" keys e)) (hz : keys.size ≤ 1000) (hz2 : out.length ≤ 1000) (hfl : failedOf st = none) (hout : (if b then ((arrOf st).map (·.2)).reverse else (arrOf st).map (·.2)) = out.toArray)
    (h : ∀ s', Step0 s₀ s' → IsL s' a out → P (.done (.ret .none)) s') : wpAny (model prog w) A (ksk_tail a b e1 (.ref kS) st) P E s := by
  unfold ksk_tail
  dsimp only
  refine wpAny_bind (listUpdate_at hk rfl ?_ (Nat.le_trans hz (by decide)) (Nat.zero_le _))
  have s1 := Step.upd hk (Obj.mapSeq fun _ => (#[] : Array Value))
  have ha1 := s1.keep _ _ ha rfl hka.symm
  generalize hg : ({ s with heap := s.heap.update kS (Obj.mapSeq fun _ => (#[] : Array Value)) } : Shared) = s₁ at s1 ha1 ⊢
  refine wpAny_bind (wpAny_letGo ?_)
  refine wpAny_bind (seqEpoch_at ha1 rfl ?_)
  refine wpAny_bind (listUpdate_at ha1 rfl ?_ (Nat.zero_le _) (by rw [hout, List.size_toArray]; exact Nat.le_trans hz2 (by decide)))
  have s2 := Step.upd ha1 (Obj.mapSeq fun _ => if b then ((arrOf st).map (·.2)).reverse else (arrOf st).map (·.2))
  have ha2 := get?_update_seq ha1 fun _ => if b then ((arrOf st).map (·.2)).reverse else (arrOf st).map (·.2)
  rw [hfl]
  simp only [bne_self_eq_false, Bool.false_eq_true, if_false]
  refine wpAny_pure (h _ ?_ ⟨_, ha2.trans (congrArg (fun x => some (seqObj "list" x _)) hout)⟩)
  · refine (Step.trans (X := fun b => b = kS ∨ b = a) (h0.up.trans (s1.mono fun b e => .inl e)) (s2.mono fun b e => .inr e)).new fun b hb _ => ?_
    rcases hb with rfl | rfl
    · exact nk
    · exact na
theorem c_end {P : PySem.Fin → Shared → Prop} {s₀ : Shared} {a kS : Addr} {lk b : Bool} {vs : List Value} {κ : Value → Key} {keys : Array Value} {e e1 : Nat} (R : Rm A 700 1000) (h0 : Step0 s₀ s) (na : s₀.heap.get? a = none) (nk : s₀.heap.get? kS = none) (hka : kS ≠ a)
    (ha : s.heap.get? a = some (seqObj "list" #[] e1)) (hk : s.heap.get? kS = some (seqObj "list" keys e)) (hz : keys.size = vs.length) (hkey : ∀ (j : Nat) (kv v : Value), keys[j]? = some kv → vs[j]? = some v → KV lk (fun b => b = a ∨ b = kS) (κ v) kv s)
    (h64 : vs.length < 64) (h1 : ∀ v ∈ vs, (κ v).One) (hs : ∀ v ∈ vs, ∀ u ∈ vs, (κ v).same (κ u) = true)
    (h : ∀ s', Step0 s₀ s' → IsL s' a (lawOrder κ b vs) → P (.done (.ret .none)) s') : wpAny (model prog w) A (ksk_end a b vs.toArray e1 (.ref kS) keys) P E s := by
  have step : ∀ t : Sem PySem.Fin, wpAny (model prog w) A t P E s → wpAny (model prog w) A (if b = true then (do let _ ← rule "list.sort.reverse"; t) else t) P E s := by
    intro t ht
    split
    · exact wpAny_bind (wpAny_rule ht)
    · exact ht
  unfold ksk_end
  dsimp only
  refine step _ ?_
  have hzs : (keys.zip vs.toArray).size = vs.length := by simp [hz]
  have out : ∀ (arr : Array Keyed) (p : Array Nat), arr = p.map (kas_item (if b then (keys.zip vs.toArray).reverse else keys.zip vs.toArray)) → Own vs.length p → Up (fun i => (κ (vs.getD (arrange b vs.length i) .none)).z) p vs.length →
      (if b then (arr.map (·.2)).reverse else arr.map (·.2)) = (lawOrder κ b vs).toArray := by
    intro arr p e own up
    have e2 : (arr.map (·.2)).toList = p.toList.map fun i => vs.getD (arrange b vs.length i) .none := by
      rw [e]
      simp only [Array.toList_map, List.map_map]
      refine List.map_congr_left fun i hi => ?_
      have : i < vs.length := by simpa using own.perm.mem_iff.mp hi
      show (kas_item _ i).2 = _
      rw [kas_item_zip hz this]
    apply Array.toList_inj.mp
    cases b
    · simp only [Bool.false_eq_true, if_false]
      rw [e2]
      exact out_up h1 hs own up
    · simp only [if_true]
      rw [Array.toList_reverse, e2]
      exact out_dn h1 hs own up
  have len : (lawOrder κ b vs).length ≤ 1000 := by rw [lawOrder_len]; omega
  have hits : (if b then (keys.zip vs.toArray).reverse else keys.zip vs.toArray).size = vs.length := by split <;> simp [hz]
  have est : ∀ κ', SortSt.mk' κ' (if b then (keys.zip vs.toArray).reverse else keys.zip vs.toArray) #[] 7 none = kas_st κ' (if b then (keys.zip vs.toArray).reverse else keys.zip vs.toArray) (List.toArray (List.range vs.length)) := by
    intro κ'
    have e := kas_range (if b then (keys.zip vs.toArray).reverse else keys.zip vs.toArray)
    rw [hits] at e
    show _ = SortSt.mk' κ' ((List.toArray (List.range vs.length)).map (kas_item _)) #[] 7 none
    rw [e]
  by_cases h2 : vs.toArray.size < 2
  · rw [if_pos h2, if_pos h2]
    refine wpAny_bind (wpAny_pure ?_)
    rw [StateT.run_pure]
    refine wpAny_bind (wpAny_pure ?_)
    rw [est]
    refine c_tail h0 na nk hka ha hk (by omega) len rfl (out _ (List.toArray (List.range vs.length)) rfl (Array.Perm.refl _) fun i j hij hj => ?_) h
    rw [List.size_toArray] at h2
    omega
  · rw [if_neg h2, if_neg h2]
    rw [List.size_toArray] at h2
    have kv : ∀ i, i < vs.length → KV lk (fun b => b = a ∨ b = kS) (κ (vs.getD i .none)) (keys.getD i .none) s := by
      intro i hi
      refine hkey i _ _ ?_ ?_
      · rw [Array.getElem?_eq_getElem (by omega)]
        have : i < keys.size := by omega
        simp [Array.getD, this]
      · simp [hi]
    have mem : ∀ i, i < vs.length → vs.getD i .none ∈ vs := fun i hi => by simp [hi]
    have ekeys : keys = (keys.toList).toArray := by simp
    have kind : ∃ T : Value, (∀ v ∈ keys.toList, Looks (model prog w) s.heap (typeOf v) T) ∧ (T != Value.type "tuple") = true ∧ (T == T) = true := by
      have all : ∀ v ∈ keys.toList, ∃ i, i < vs.length ∧ KV lk (fun b => b = a ∨ b = kS) (κ (vs.getD i .none)) v s := by
        intro v hv
        obtain ⟨i, hi, rfl⟩ := List.mem_iff_getElem.mp hv
        have hi' : i < keys.size := by simpa using hi
        refine ⟨i, by omega, ?_⟩
        have := kv i (by omega)
        simpa [Array.getD, hi'] using this
      cases lk
      · have m0 := mem 0 (by omega)
        cases hk0 : κ (vs.getD 0 .none) with
        | i n0 =>
          refine ⟨.type "int", fun v hv => ?_, rfl, rfl⟩
          obtain ⟨i, hi, q⟩ := all v hv
          have sm := hs _ m0 _ (mem i hi)
          have q : IsKey v (κ (vs.getD i .none)) := q
          cases hki : κ (vs.getD i .none) with
          | i ni =>
            rw [hki] at q
            obtain ⟨t, rfl⟩ := q
            exact Looks.of_pure rfl
          | s c => rw [hk0, hki] at sm; cases sm
        | s c0 =>
          refine ⟨.type "str", fun v hv => ?_, rfl, rfl⟩
          obtain ⟨i, hi, q⟩ := all v hv
          have sm := hs _ m0 _ (mem i hi)
          have q : IsKey v (κ (vs.getD i .none)) := q
          cases hki : κ (vs.getD i .none) with
          | i ni => rw [hk0, hki] at sm; cases sm
          | s c =>
            rw [hki] at q
            obtain ⟨x, t, rfl, _⟩ := q
            exact Looks.of_pure rfl
      · refine ⟨.type "list", fun v hv => ?_, rfl, rfl⟩
        obtain ⟨i, hi, r, u, rfl, _, ⟨n, hr⟩, _⟩ := all v hv
        exact (Looks.ld hr).andThen .now
    obtain ⟨T, hT, hT1, hT2⟩ := kind
    rw [ekeys]
    refine wpAny_bind (kas_kind (vs := keys.toList) (by simp; omega) hT hT1 hT2 ?_)
    rw [← ekeys, est]
    have ask : (kas_sort vs.length).kasWp (kas_cmp prog w A oneType' (if b then (keys.zip vs.toArray).reverse else keys.zip vs.toArray)) (fun p s' => s' = s ∧ Own vs.length p ∧ Up (fun i => (κ (vs.getD (arrange b vs.length i) .none)).z) p vs.length) s := by
      refine kasWp_of_fair vs.length (fun i => (κ (vs.getD (arrange b vs.length i) .none)).z) (I := fun s' => s' = s) ?_ (fun p s' q e => ⟨e, q⟩) _ s rfl (f_sort (by omega))
      rintro i j C s' hi hj rfl hC
      have ai : arrange b vs.length i < vs.length := by unfold arrange; split <;> omega
      have aj : arrange b vs.length j < vs.length := by unfold arrange; split <;> omega
      unfold kas_cmp
      rw [kas_item_zip hz hi, kas_item_zip hz hj]
      refine key_lt (Nat.lt_of_le_of_lt (Nat.add_le_add_right R.units 3) (by decide)) (kv _ ai) (kv _ aj) (hs _ (mem _ ai) _ (mem _ aj)) (h1 _ (mem _ ai)) (h1 _ (mem _ aj)) (hC _ rfl)
    have run := kas_runs (E := E) (Q := fun _ st' s' => ∃ p, arrOf st' = p.map (kas_item (if b then (keys.zip vs.toArray).reverse else keys.zip vs.toArray)) ∧ failedOf st' = none ∧ s' = s ∧ Own vs.length p ∧ Up (fun i => (κ (vs.getD (arrange b vs.length i) .none)).z) p vs.length) (by omega) h64 (fun p' st' s' a1 a2 a3 a4 => ⟨p', a2, a3, a4⟩) ask
    refine wpAny_bind (wpAny_mono run ?_ fun _ _ e => e)
    rintro ⟨⟨⟩, st'⟩ s' ⟨p, har, hf, rfl, own, up⟩
    dsimp only
    exact c_tail h0 na nk hka ha hk (by omega) len hf (out _ p har own up) h
end
end Mine
end
section
open PySem PySem.W PySem.W.X PyProof.Rows
namespace Mine
section
variable {prog : Program} {w : World} {A : Around} {s : Shared} {E : Value → Shared → Prop}
theorem c_tree {P : PySem.Fin → Shared → Prop} {s₀ : Shared} {a f : Addr} {lk b : Bool} {vs : List Value} {κ : Value → Key} (R : Rm A 700 1000) (h0 : Step0 s₀ s) (na : s₀.heap.get? a = none) (ha : IsL s a vs)
    (h64 : vs.length < 64) (hf : KeyFnG lk prog w s₀ f vs κ) (h1 : ∀ v ∈ vs, (κ v).One) (hs : ∀ v ∈ vs, ∀ u ∈ vs, (κ v).same (κ u) = true)
    (h : ∀ s', Step0 s₀ s' → IsL s' a (lawOrder κ b vs) → P (.done (.ret .none)) s') : wpAny (model prog w) A (ksk_tree a (.ref f) b) P E s := by
  obtain ⟨n, ho⟩ := ha
  have ho : s.heap.get? a = some (seqObj "list" vs.toArray n) := ho
  unfold ksk_tree
  refine wpAny_bind (listItems_at ho rfl ?_)
  refine wpAny_bind (listUpdate_at ho rfl ?_ (by rw [List.size_toArray]; exact Nat.le_trans (Nat.le_of_lt h64) (by decide)) (Nat.zero_le _))
  have s1 := Step.upd ho (Obj.mapSeq fun _ => (#[] : Array Value))
  obtain ⟨e1, ho1⟩ : ∃ e1, (s.heap.update a (Obj.mapSeq fun _ => (#[] : Array Value))).get? a = some (seqObj "list" #[] e1) := ⟨_, get?_update_seq ho fun _ => #[]⟩
  refine wpAny_bind (seqEpoch_at ho1 rfl ?_)
  refine wpAny_bind (wpAny_newTuple ?_ (by show vs.length ≤ _; exact Nat.le_trans (Nat.le_of_lt h64) (by decide)))
  have s2 := s1.trans (Step.up (Step0.push _ { cls := .type "tuple", data := .seq vs.toArray }))
  have ho2 : (({ s with heap := (s.heap.update a (Obj.mapSeq fun _ => (#[] : Array Value))).push { cls := .type "tuple", data := .seq vs.toArray } } : Shared)).heap.get? a = some (seqObj "list" #[] e1) := Heap.get?_push_of_some _ ho1
  generalize hg : ({ s with heap := (s.heap.update a (Obj.mapSeq fun _ => (#[] : Array Value))).push { cls := .type "tuple", data := .seq vs.toArray } } : Shared) = s₂ at s2 ho2
  refine wpAny_bind ?_
  refine wpAny_newList ?_ (Nat.zero_le _)
  have h02 : Step0 s₀ s₂ := (Step.trans h0.up s2).new fun b e _ => e ▸ na
  have nk2 : s₂.heap.get? s₂.heap.objs.size = none := Heap.get?_none_of_le (Nat.le_refl _)
  have s3 : Step0 s₂ { s₂ with heap := s₂.heap.push { cls := .type "list", data := .seq #[] } } := Step0.push _ _
  have hk3 : ({ s₂ with heap := s₂.heap.push { cls := .type "list", data := .seq #[] } } : Shared).heap.get? s₂.heap.objs.size = some (seqObj "list" #[] 0) := Heap.get?_push_size _ rfl
  have ho3 := s3.at ho2
  generalize hg3 : ({ s₂ with heap := s₂.heap.push { cls := .type "list", data := .seq #[] } } : Shared) = s₃ at s3 hk3 ho3
  generalize hkS : s₂.heap.objs.size = kS at nk2 hk3
  have hka : kS ≠ a := fun e => by rw [e, ho2] at nk2; cases nk2
  have h03 := h02.trans s3
  have nk : s₀.heap.get? kS = none := h02.notThere nk2
  refine wpAny_holding ?_
  unfold ksk_rest
  refine wpAny_bind (wpAny_rule ?_)
  first
    | rw [List.forIn_toArray]
    | (rw [← Array.forIn_toList]; simp only [List.toList_toArray])
    | rw [← Array.forIn_toList]
  refine wpAny_bind (ksk_fold (fun i s' => Step0 s₀ s' ∧ ∃ kA e, s'.heap.get? kS = some (seqObj "list" kA e) ∧ s'.heap.get? a = some (seqObj "list" #[] e1) ∧ kA.size = i ∧ ∀ (j : Nat) (kv v : Value), kA[j]? = some kv → vs[j]? = some v → KV lk (fun b => b = a ∨ b = kS) (κ v) kv s') vs 0 s₃
    ⟨h03, #[], 0, hk3, ho3, rfl, fun j kv v hj => by simp at hj⟩ ?step ?done)
  case step =>
    rintro j x s' hx ⟨h', kA, e, hk, hA, hz, hv⟩
    simp only [Nat.zero_add] at hz ⊢
    have hj : j < vs.length := (List.getElem?_eq_some_iff.mp hx).1
    refine wpAny_bind (wpAny_attempt (noE (hf.2 x (List.mem_of_getElem? hx) A s' _ R h' fun r s'' h'' hr => ?_)))
    have hk' := h''.at hk
    have hA' := h''.at hA
    have st := Step.upd hk' (Obj.mapSeq (·.push r))
    refine wpAny_bind (listUpdate_at hk' rfl ?_ (by rw [hz]; exact Nat.le_trans (Nat.le_of_lt (Nat.lt_trans hj h64)) (by decide)) (by rw [Array.size_push, hz]; exact Nat.le_trans (Nat.succ_le_of_lt (Nat.lt_trans hj h64)) (by decide)))
    refine wpAny_pure ⟨rfl, ?_, kA.push r, _, get?_update_seq hk' (·.push r), st.keep _ _ hA' rfl hka.symm, by rw [Array.size_push, hz], fun i kv v hi hv' => ?_⟩
    · exact (Step.trans (Step.up (h'.trans h'')) st).new fun b e _ => e ▸ nk
    · have go : KV lk (fun b => b = a ∨ b = kS) (κ v) kv s'' := by
        by_cases hij : i < j
        · rw [Array.getElem?_push, if_neg (by omega)] at hi
          exact (hv i kv v hi hv').step h''.up (X := fun b => b = a ∨ b = kS) fun b hb => hb
        · have : i = j := by
            have := (Array.getElem?_eq_some_iff.mp hi).1
            rw [Array.size_push] at this
            omega
          subst this
          rw [Array.getElem?_push, if_pos hz.symm] at hi
          cases hi
          rw [hx] at hv'; cases hv'
          exact hr _ fun b hb => hb.elim (fun e => e ▸ ⟨_, hA⟩) fun e => e ▸ ⟨_, hk⟩
      exact go.step st fun b e => .inr e
  case done =>
    rintro s' ⟨h', kA, e, hk, hA, hz, hv⟩
    refine wpAny_bind (listItems_at hk rfl ?_)
    exact c_end R h' na nk hka hA hk (by omega) hv h64 h1 hs h
/-- sorted, once its argument is collected -/
theorem c_sorted {arg : Value} {f : Addr} {lk b : Bool} {vs : List Value} {κ : Value → Key} {kw : List (Str × Value)} {Q : Value → Shared → Prop} (R : Rm A 690 990)
    (ha1 : argsOk "sorted" ⟨[arg], kw⟩) (ha2 : ∀ x, argsOk "list.sort" ⟨[.ref x], kw⟩) (ht : ∀ x, Builtin.«list.sort» ⟨[.ref x], kw⟩ = ksk_tree x (.ref f) b)
    (hc : ∀ (Q' : List Value → Shared → Prop), (∀ s', Step0 s s' → Q' vs s') → wpAny (model prog w) A.in1 (collect arg) Q' NoE s) (h64 : vs.length < 64) (hf : KeyFnG lk prog w s f vs κ) (h1 : ∀ v ∈ vs, (κ v).One) (hs : ∀ v ∈ vs, ∀ u ∈ vs, (κ v).same (κ u) = true)
    (h : ∀ r s', Step0 s s' → IsL s' r (lawOrder κ b vs) → s.heap.get? r = none → Q (.ref r) s') :
    wpAny (model prog w) A (call (.builtin "sorted") [arg] kw) Q NoE s := by
  refine call_function_entry_kw kind_sorted plain_sorted entry_sorted ha1 ?_
  unfold Builtin.«sorted»
  refine wpAny_bind (m := checkCount "sorted" 1 1 _) (wpAny_pure ?_)
  refine wpAny_bind (noE (hc _ fun s₁ st1 => ?_))
  refine wpAny_bind (wpAny_newList ?_ (Nat.le_trans (Nat.le_of_lt h64) (by decide)))
  have st2 : Step0 s₁ { s₁ with heap := s₁.heap.push { cls := .type "list", data := .seq vs.toArray } } := Step0.push _ _
  have hl2 : IsL { s₁ with heap := s₁.heap.push { cls := .type "list", data := .seq vs.toArray } } s₁.heap.objs.size vs := ⟨0, Heap.get?_push_size _ rfl⟩
  have nl : s.heap.get? s₁.heap.objs.size = none := st1.notThere (Heap.get?_none_of_le (Nat.le_refl _))
  have ty : ({ s₁ with heap := s₁.heap.push { cls := .type "list", data := .seq vs.toArray } } : Shared).TypeIs (.ref s₁.heap.objs.size) "list" := ⟨_, hl2.choose_spec, rfl⟩
  refine wpAny_bind (wpAny_holding (wpAny_call_entry_kw slot_list_sort ty entry_list_sort ?body (ha2 _)))
  have ht' := ht s₁.heap.objs.size
  show wpAny (model prog w) A.in1.in1 (Builtin.«list.sort» ⟨[.ref s₁.heap.objs.size], kw⟩) _ _ _
  rw [ht']
  refine c_tree R.in1.in1.mono (st1.trans st2) nl hl2 h64 hf h1 hs fun s' st' hl' => ⟨_, rfl, wpAny_pure ⟨_, rfl, ?_⟩⟩
  exact h _ s' st' hl' nl
theorem c_sortedL {l f : Addr} {lk b : Bool} {vs : List Value} {κ : Value → Key} {kw : List (Str × Value)} {Q : Value → Shared → Prop} (R : Rm A 690 990)
    (ha1 : argsOk "sorted" ⟨[.ref l], kw⟩) (ha2 : ∀ x, argsOk "list.sort" ⟨[.ref x], kw⟩) (ht : ∀ x, Builtin.«list.sort» ⟨[.ref x], kw⟩ = ksk_tree x (.ref f) b)
    (hl : IsL s l vs) (h64 : vs.length < 64) (hf : KeyFnG lk prog w s f vs κ) (h1 : ∀ v ∈ vs, (κ v).One) (hs : ∀ v ∈ vs, ∀ u ∈ vs, (κ v).same (κ u) = true)
    (h : ∀ r s', Step0 s s' → IsL s' r (lawOrder κ b vs) → s.heap.get? r = none → Q (.ref r) s') :
    wpAny (model prog w) A (call (.builtin "sorted") [.ref l] kw) Q NoE s := by
  refine c_sorted R ha1 ha2 ht (fun Q' hq => collect_list hl.is (hq _ ?_) (Nat.le_trans (Nat.le_of_lt h64) (by decide))) h64 hf h1 hs h
  refine Step0.of_heap (t := s.toks) fun b o q => ?_
  have hlt : b < s.heap.objs.size := Heap.lt_size q
  rw [Heap.get?_update_ne _ _ _ _ (Nat.ne_of_lt hlt), Heap.get?_push_ne _ _ _ (Nat.ne_of_lt hlt)]
  exact q
end
end Mine
end
section
open PySem PySem.W PySem.W.X PyProof.Rows
namespace Mine
/-- two values that == holds of, d lists or tuples deep -/
def Eqv (s : Shared) (d : Nat) (x y : Value) : Prop := ∀ A : Around, A.units + d < cLine → SeqAt.EqAt A s x y true
theorem Eqv.same {s : Shared} {d : Nat} (v : Value) : Eqv s d v v := fun _ _ => SeqAt.EqAt.same v
theorem Eqv.key {s : Shared} {d : Nat} {v u : Value} {k : Key} (hv : IsKey v k) (hu : IsKey u k) : Eqv s d v u := fun A _ => by
  have := eqAt_key hv hu (by cases k <;> rfl) A s
  simpa using this
theorem Eqv.int {s : Shared} {d : Nat} {n : Int} {t u : Tok} : Eqv s d (.int n t) (.int n u) := Eqv.key (k := .i n) ⟨t, rfl⟩ ⟨u, rfl⟩
def EqvAll (s : Shared) (d : Nat) (xs ys : List Value) : Prop := xs.length = ys.length ∧ ∀ (j : Nat) (x y : Value), xs[j]? = some x → ys[j]? = some y → Eqv s d x y
theorem EqvAll.refl {s : Shared} {d : Nat} (xs : List Value) : EqvAll s d xs xs := ⟨rfl, fun j x y h h' => by rw [h] at h'; cases h'; exact Eqv.same x⟩
theorem EqvAll.items {s : Shared} {d : Nat} {xs ys : List Value} (h : EqvAll s d xs ys) {A : Around} (hu : A.units + (d + 1) < cLine) : ∀ j (h1 : j < xs.toArray.size) (h2 : j < ys.toArray.size), SeqAt.EqAt A.in1 s xs.toArray[j] ys.toArray[j] ((fun _ => true) j) := fun j h1 h2 => by
  have h1' : j < xs.length := by simpa using h1
  have h2' : j < ys.length := by simpa using h2
  have := h.2 j xs[j] ys[j] (by simp [h1']) (by simp [h2']) A.in1 (by show A.units + 1 + d < cLine; omega)
  simpa using this
theorem Eqv.list {s : Shared} {d : Nat} {l b : Addr} {xs ys : List Value} (hl : IsL s l xs) (hb : IsL s b ys) (h : EqvAll s d xs ys) : Eqv s (d + 1) (.ref l) (.ref b) := fun A hu => by
  by_cases e : l = b
  · subst e; exact SeqAt.EqAt.same _
  · refine SeqAt.EqAt.of_refs e ?_
    have := SeqAt.RcAt.lists (e := fun _ => true) hl.is hb.is (by simpa using h.1) (by omega) (h.items hu)
    have e2 : ((List.range xs.toArray.size).all fun _ => true) = true := by simp
    rw [e2] at this
    exact this
theorem Eqv.tuple {s : Shared} {d : Nat} {l b : Addr} {xs ys : List Value} (hl : IsT s l xs) (hb : IsT s b ys) (h : EqvAll s d xs ys) : Eqv s (d + 1) (.ref l) (.ref b) := fun A hu => by
  by_cases e : l = b
  · subst e; exact SeqAt.EqAt.same _
  · refine SeqAt.EqAt.of_refs e ?_
    have := SeqAt.RcAt.tuples (e := fun _ => true) (s := s) (items := xs.toArray) (items2 := ys.toArray) ⟨_, hl, rfl, 0, rfl⟩ ⟨_, hb, rfl, 0, rfl⟩ (by omega) (h.items hu)
    have e2 : (((List.range (min xs.toArray.size ys.toArray.size)).all fun _ => true) && xs.toArray.size == ys.toArray.size) = true := by simp [h.1]
    rw [e2] at this
    exact this
section
variable {prog : Program} {w : World} {A : Around} {s : Shared} {Q : Value → Shared → Prop}
theorem op_ne {d : Nat} {l b : Addr} {xs ys : List Value} (hu : A.units + (d + 1) < cLine) (hl : IsL s l xs) (hb : IsL s b ys) (h : EqvAll s d xs ys) (k : Q (.bool false) s) : wpAny (model prog w) A (compareOp .NotEq (.ref l) (.ref b)) Q NoE s := by
  have := SeqAt.RcNeAt.lists (e := fun _ => true) hl.is hb.is (by simpa using h.1) (by omega) (h.items hu)
  have e2 : (!(List.range xs.toArray.size).all fun _ => true) = false := by simp
  rw [e2] at this
  exact this prog w _ _ k
theorem op_eq {d : Nat} {l b : Addr} {xs ys : List Value} (hu : A.units + (d + 1) < cLine) (hl : IsL s l xs) (hb : IsL s b ys) (h : EqvAll s d xs ys) (k : Q (.bool true) s) : wpAny (model prog w) A (compareOp .Eq (.ref l) (.ref b)) Q NoE s := by
  have := SeqAt.RcAt.lists (e := fun _ => true) hl.is hb.is (by simpa using h.1) (by omega) (h.items hu)
  have e2 : ((List.range xs.toArray.size).all fun _ => true) = true := by simp
  rw [e2] at this
  exact this prog w _ _ k
/-- against a list of another length -/
theorem op_ne_len {l b : Addr} {xs ys : List Value} (hu : A.units < cLine) (hl : IsL s l xs) (hb : IsL s b ys) (h : xs.length ≠ ys.length) (k : Q (.bool true) s) : wpAny (model prog w) A (compareOp .NotEq (.ref l) (.ref b)) Q NoE s :=
  SeqAt.RcNeAt.lists_lengths hl.is hb.is (by simpa using h) hu prog w _ _ k
theorem op_eq_len {l b : Addr} {xs ys : List Value} (hu : A.units < cLine) (hl : IsL s l xs) (hb : IsL s b ys) (h : xs.length ≠ ys.length) (k : Q (.bool false) s) : wpAny (model prog w) A (compareOp .Eq (.ref l) (.ref b)) Q NoE s :=
  SeqAt.RcAt.lists_lengths hl.is hb.is (by simpa using h) hu prog w _ _ k
/-- x in l, where no item equals x by its length -/
theorem op_in_no {l e : Addr} {xs : List Value} (hu : A.units + 1 < cLine) (hl : IsL s l xs) (he : IsL s e []) (h : ∀ x ∈ xs, ∃ r ys, x = .ref r ∧ IsL s r ys ∧ ys ≠ []) (k : Q (.bool false) s) : wpAny (model prog w) A (compareOp .In (.ref e) (.ref l)) Q NoE s := by
  refine SeqAt.in_listAt (fun _ => false) hl.is (fun y hy => ?_) ?_
  · obtain ⟨r, ys, rfl, hr, hn⟩ := h y (by simpa using hy)
    have hne : r ≠ e := by
      rintro rfl
      obtain ⟨n, a⟩ := he
      obtain ⟨m, b⟩ := hr
      rw [a] at b
      cases ys with
      | nil => exact hn rfl
      | cons y r => simp [lst] at b
    refine SeqAt.EqAt.of_refs hne (SeqAt.RcAt.lists_lengths hr.is he.is ?_ hu)
    cases ys with
    | nil => exact absurd rfl hn
    | cons y r => simp
  · have : (xs.toArray.any fun _ => false) = false := by simp
    rw [this]; exact k
end
end Mine
end
section
open PySem PySem.W PySem.W.X PyProof.Rows
namespace Mine
/-! generator functions -/
def Stays (S a : Addr) (s s' : Shared) : Prop := ∀ b o, b = S ∨ b = a → s.heap.get? b = some o → s'.heap.get? b = some o
theorem Stays.list {S a : Addr} {s s' : Shared} (h : Stays S a s s') {xs} (hl : IsL s S xs) : IsL s' S xs := let ⟨n, e⟩ := hl; ⟨n, h _ _ (.inl rfl) e⟩
theorem Stays.gen {S a : Addr} {s s' : Shared} (h : Stays S a s s') {g} (hl : s.heap.IsGen a g) : s'.heap.IsGen a g := let ⟨o, nm, qn, e, r⟩ := hl; ⟨o, nm, qn, h _ _ (.inr rfl) e, r⟩
abbrev At (S : Addr) : Addr → Prop := fun b => b = S
/-- how it ends, and how it yields: sC the state before it was made, S the list that takes, a the generator, N yields, H what holds of those yielded -/
def EndP (sC : Shared) (S a : Addr) (H : List Value → Heap → Prop) (n : Nat) (s₀ s₁ : Shared) : Prop := n = 0 ∧ Step0 sC s₁ ∧ Stays S a s₀ s₁ ∧ ∀ ys, H ys s₀.heap → H ys s₁.heap
def GR (sC : Shared) (S a : Addr) (H : List Value → Heap → Prop) : GenEnd := fun n s₀ r s₁ => r = .ok (.ret .none) ∧ EndP sC S a H n s₀ s₁
def GY (sC : Shared) (S a : Addr) (N : Nat) (H : List Value → Heap → Prop) : Protocol := fun n s₀ v s' kap =>
  Step0 sC s' ∧ GensOk s₀.gens s'.gens ∧ Stays S a s₀ s' ∧ (∀ ys, ys.length + n + 1 = N → H ys s₀.heap → H (ys ++ [v]) s'.heap) ∧ ∀ s'', Step0 sC s'' → Step (At S) s' s'' → (∃ xs, IsL s'' S xs) → kap (.send .none) s''

theorem setGen_heap (s : Shared) (g : Nat) (x : GenState) : (s.setGen g x).heap = s.heap := rfl
theorem Step0.setGen {sC s : Shared} (h : Step0 sC s) {g : Nat} {x : GenState} (hg : sC.gens.size ≤ g) (hb : x.bare = true) : Step0 sC (s.setGen g x) := by
  refine ⟨h.keep, h.there, h.tabs, h.os, ?_, h.tab⟩
  obtain ⟨a, b, c⟩ := h.gens
  refine ⟨by show _ ≤ (s.gens.setIfInBounds g x).size; rw [Array.size_setIfInBounds]; exact a, fun i y e => ?_, fun i y hi e => ?_⟩
  · have lt := (Array.getElem?_eq_some_iff.mp e).1
    show (s.gens.setIfInBounds g x)[i]? = some y
    rw [Array.getElem?_setIfInBounds, if_neg (by omega)]
    exact b i y e
  · have e : (s.gens.setIfInBounds g x)[i]? = some y := e
    rw [Array.getElem?_setIfInBounds] at e
    split at e
    · split at e
      · cases e; exact hb
      · cases e
    · exact c i y hi e
section
variable {prog : Program} {w : World} {A : Around} {E : Value → Shared → Prop} {s : Shared}
/-- the end of a generator, as it is raised -/
theorem stop_up {α : Type} {Q : α → Shared → Prop} (hh : A.handled = none)
    (h : ∀ x h', (∀ b o, s.heap.get? b = some o → h'.get? b = some o) → ({ s with heap := h' } : Shared).TypeIs x "StopIteration" → E x { s with heap := h' }) :
    wpAny (model prog w) A (do raiseNew (← newExc (.type "StopIteration") []) : Sem α) Q E s := by
  have two : ∀ (x y : Obj) b o, s.heap.get? b = some o → ((s.heap.push x).push y).get? b = some o := fun x y b o e => Heap.get?_push_of_some _ (Heap.get?_push_of_some _ e)
  exact wpAny_bind (wpAny_bind (wpAny_newObj_type (wpAny_bind (m := firstArgMember _ _) (wpAny_of_eq (a := .none) rfl (wpAny_newObj_type (wpAny_raiseNew_none hh (h _ _ (two _ _) ⟨_, Heap.get?_push_size _ rfl, rfl⟩)) (by size_fits)))) (by size_fits)))
/-- a generator function is woken: what it leaves of itself is bare -/
theorem wake_bare {a : Addr} {g n : Nat} {gs : GenState} {P : Nat → Shared → Shared → Prop} {Y : Protocol} {F : Fin → Shared → Prop} (hh : A.handled = none) (hl : s.heap.NoLimit) (hroom : A.depth < recursionLimit)
    (hg : s.heap.IsGen a g) (hgs : s.gens[g]? = some gs) (hgo : gs.Goes (model prog w) A (fun n s₀ r s₁ => r = .ok (.ret .none) ∧ P n s₀ s₁) Y n (.send .none) (s.setGen g .running))
    (hY : ∀ v s₁ gs', gs'.bare = true → Y (n - 1) (s.setGen g .running) v s₁ (fun r' s'' => match n with
        | 0 => False
        | m + 1 => gs'.Goes (model prog w) A (fun n s₀ r s₁ => r = .ok (.ret .none) ∧ P n s₀ s₁) Y m r' s'') → F (.done (.ret v)) (s₁.setGen g gs'))
    (hP : ∀ s₁, P n (s.setGen g .running) s₁ → ∀ x h', (∀ b o, s₁.heap.get? b = some o → h'.get? b = some o) → ({ s₁.setGen g .finished with heap := h' } : Shared).TypeIs x "StopIteration" → E x { s₁.setGen g .finished with heap := h' }) :
    wpAny (model prog w) A (Builtin.Generator.genWake (.ref a) (.send .none)) F E s := by
  have room : ∀ t : Sem Fin, wpAny (model prog w) A t F E s → wpAny (model prog w) A (roomToWake >>= fun _ => t) F E s := fun t ht => wpAny_bind (wpAny_roomToWake hl hroom ht)
  refine wpAny_bind (wpAny_holding (wpAny_genNumber hg (wpAny_bind (wpAny_genState hgs ?_))))
  have go : ∀ k : GenResult → Sem Fin, (∀ s₁, P n (s.setGen g .running) s₁ → wpAny (model prog w) A (k (.returned .none)) F E (s₁.setGen g .finished)) → (∀ v s₁, F (.done (.ret v)) s₁ → wpAny (model prog w) A (k (.yielded v)) F E s₁) →
      wpAny (model prog w) A (.resume g (.send .none) [] k) F E s := fun k h1 h2 => wpAny_resumeQ hgs hgo (fun r s₁ hr => hr.1 ▸ h1 s₁ hr.2) fun v s₁ gs' hb hv => h2 v _ (hY v s₁ gs' hb hv)
  have stop : ∀ (k : Unit → Sem Fin) s₁, P n (s.setGen g .running) s₁ → wpAny (model prog w) A ((do raiseNew (← newExc (.type "StopIteration") []) : Sem Unit) >>= k) F E (s₁.setGen g .finished) := fun k s₁ hp => wpAny_bind (stop_up hh (hP s₁ hp))
  cases gs with
  | fresh c => exact room _ (go _ (stop _) fun v s₁ q => wpAny_pure q)
  | suspended => exact room _ (go _ (stop _) fun v s₁ q => wpAny_pure q)
  | running => exact hgo.elim
  | finished => exact hgo.elim
theorem next_gen {a : Addr} {g n : Nat} {gs : GenState} {P : Nat → Shared → Shared → Prop} {Y : Protocol} {Q : Option Value → Shared → Prop} (hh : A.handled = none) (hl : s.heap.NoLimit) (hroom : A.depth < recursionLimit)
    (hg : s.heap.IsGen a g) (hgs : s.gens[g]? = some gs) (hgo : gs.Goes (model prog w) A.in1 (fun n s₀ r s₁ => r = .ok (.ret .none) ∧ P n s₀ s₁) Y n (.send .none) (s.setGen g .running))
    (hY : ∀ v s₁ gs', gs'.bare = true → Y (n - 1) (s.setGen g .running) v s₁ (fun r' s'' => match n with
        | 0 => False
        | m + 1 => gs'.Goes (model prog w) A.in1 (fun n s₀ r s₁ => r = .ok (.ret .none) ∧ P n s₀ s₁) Y m r' s'') → Q (some v) (s₁.setGen g gs'))
    (hP : ∀ s₁, P n (s.setGen g .running) s₁ → ∀ h', (∀ b o, s₁.heap.get? b = some o → h'.get? b = some o) → Q none { s₁.setGen g .finished with heap := h' }) :
    wpAny (model prog w) A (pyNext (.ref a)) Q E s :=
  wpAny_bind (wpAny_attempt (wpAny_callSpecial?_slot (name := Str.ofString "__next__") hg.typeIs slot_gen_next (wpAny_call_entry slot_gen_next hg.typeIs entry_gen_next
    (wake_bare (A := A.in1) hh hl hroom hg hgs hgo (fun v s₁ gs' hb hv => ⟨v, rfl, wpAny_pure (hY v s₁ gs' hb hv)⟩)
      (fun s₁ hp _ h' hk ht => wpAny_bind (wpAny_isInstance (b := true) ht isSubtype_stop (wpAny_pure (hP s₁ hp h' hk))))) (args_gen_next _))))

/-- between two yields -/
structure Between (prog : Program) (w : World) (A : Around) (sC : Shared) (S a : Addr) (g N : Nat) (H : List Value → Heap → Prop) (i : Nat) (ys : List Value) (s : Shared) : Prop where
  list : IsL s S ys
  len : ys.length = i
  since : Step0 sC s
  is : s.heap.IsGen a g
  hold : H ys s.heap
  goes : ∃ gs, s.gens[g]? = some gs ∧ ∀ s'', Step0 sC s'' → Step (At S) (s.setGen g .running) s'' → IsL s'' S ys → gs.Goes (model prog w) A (GR sC S a H) (GY sC S a N H) (N - i) (.send .none) s''

theorem IsGen.stepX {X : Addr → Prop} {s s' : Shared} {a : Addr} {g : Nat} (h : s.heap.IsGen a g) (k : Step X s s') (n : ¬ X a) : s'.heap.IsGen a g := let ⟨o, nm, qn, ho, hc, r⟩ := h; ⟨o, nm, qn, k.keep _ _ ho (by unfold isTab; rw [hc]) n, hc, r⟩
theorem gens_same {gens : Array GenState} {g : Nat} {x : GenState} (h : gens[g]? = some .running) : (gens.setIfInBounds g x).setIfInBounds g .running = gens := by
  apply Array.ext_getElem?
  intro i
  rw [Array.getElem?_setIfInBounds]
  by_cases e : g = i
  · subst e
    have lt := (Array.getElem?_eq_some_iff.mp h).1
    rw [if_pos rfl, if_pos (by rw [Array.size_setIfInBounds]; exact lt), h]
  · rw [if_neg e, Array.getElem?_setIfInBounds, if_neg e]
theorem size_set {gens : Array GenState} {g : Nat} {x : GenState} (h : g < gens.size) : (gens.setIfInBounds g x)[g]? = some x := by
  rw [Array.getElem?_setIfInBounds, if_pos rfl, if_pos h]
theorem list_loop {sC : Shared} {S a : Addr} {g N : Nat} {H : List Value → Heap → Prop} {P : Params} {res : Value} {R : Result → Shared → Prop} (hh : A.handled = none) (hroom : A.depth < recursionLimit) (X : (KP P).In sC.heap) (hgC : sC.gens.size ≤ g) (aS : a ≠ S) (hN : N ≤ 1000)
    (nS : sC.heap.get? S = none) (hH : ∀ ys s s', H ys s.heap → Step (At S) s s' → H ys s'.heap)
    (fin : ∀ ys s, IsL s S ys → ys.length = N → Step0 sC s → H ys s.heap → R (.ok (.ret res)) s) :
    ∀ (k i : Nat) (ys : List Value) (s : Shared), N - i = k → i ≤ N → Between prog w A.in1.in1 sC S a g N H i ys s → codeAny (model prog w) A (.builtin "list.extend.loop" ⟨[.ref S, .ref a, res], []⟩) R s := by
  intro k
  induction k with
  | zero =>
    intro i ys s hk hi B
    obtain rfl : i = N := by omega
    refine codeAny_builtin F.entry_extend_loop ?_
    rw [Around.under_plainId F.plain_extend_loop _]
    show wpAny _ A.in1 (pyNext (.ref a) >>= _) _ _ s
    obtain ⟨gs, hgs, go⟩ := B.goes
    have run : Step0 sC (s.setGen g .running) := B.since.setGen hgC rfl
    refine wpAny_bind (next_gen (P := EndP sC S a H) hh (noLimit (KP.step0 X B.since)) hroom B.is hgs (go _ run (Step.refl _ _) B.list) (fun v s₁ gs' hb hy => ?_) (fun s₁ hp h' hk' => wpAny_pure (fin ys _ ?_ B.len ?_ ?_)))
    · exact (by
        have := hy.2.2.2.2 s₁ hy.1 (Step.refl _ _) ⟨ys, hy.2.2.1.list (xs := ys) B.list⟩
        rw [Nat.sub_self] at this
        exact this.elim)
    · obtain ⟨n, e⟩ := hp.2.2.1.list (xs := ys) B.list
      exact ⟨n, hk' _ _ e⟩
    · have h1 := hp.2.1.setGen (g := g) (x := .finished) hgC rfl
      exact h1.trans (Step0.of_heap (s := s₁.setGen g .finished) (t := s₁.toks) hk')
    · exact hH ys (s₁.setGen g .finished) _ (hp.2.2.2 ys B.hold) (Step.up (Step0.of_heap (s := s₁.setGen g .finished) (t := s₁.toks) hk'))
  | succ k ih =>
    intro i ys s hk hi B
    refine codeAny_builtin F.entry_extend_loop ?_
    rw [Around.under_plainId F.plain_extend_loop _]
    show wpAny _ A.in1 (pyNext (.ref a) >>= _) _ _ s
    obtain ⟨gs, hgs, go⟩ := B.goes
    have glt : g < s.gens.size := (Array.getElem?_eq_some_iff.mp hgs).1
    have run : Step0 sC (s.setGen g .running) := B.since.setGen hgC rfl
    have e1 : N - i = k + 1 := hk
    have go' := go _ run (Step.refl _ _) B.list
    rw [e1] at go'
    refine wpAny_bind (next_gen (P := EndP sC S a H) hh (noLimit (KP.step0 X B.since)) hroom B.is hgs go' (fun v s₁ gs' hb hy => ?_) (fun s₁ hp h' hk' => ?_))
    · obtain ⟨st1, gz, stay, hold, kap⟩ := hy
      have h1 := st1.setGen (g := g) (x := gs') hgC hb
      obtain ⟨n, eS⟩ := stay.list (xs := ys) B.list
      have l1 : (s₁.setGen g gs').heap.get? S = some (seqObj "list" ys.toArray n) := eS
      show wpAny _ A.in1 (updateSeq S (·.push v) >>= _) _ _ _
      have hlen := B.len
      refine wpAny_bind (wpAny_updateSeq l1 rfl (wpAny_pure ⟨plainId_quiet F.plain_extend_loop _, ih (i + 1) (ys ++ [v]) _ (by omega) (by omega) ?_⟩) (by show ys.toArray.size ≤ sizeLine; rw [List.size_toArray]; exact Nat.le_trans (by omega) (show 1000 ≤ sizeLine by decide)) (by
        show (ys.toArray.push v).size ≤ sizeLine + 1
        rw [Array.size_push, List.size_toArray]; exact Nat.le_trans (by omega) (show 1001 ≤ sizeLine + 1 by decide)))
      have up := Step.upd l1 (Obj.mapSeq (·.push v))
      have st2 : Step0 sC { s₁.setGen g gs' with heap := (s₁.setGen g gs').heap.update S (Obj.mapSeq (·.push v)) } := (Step.trans h1.up up).new fun b e _ => e ▸ nS
      have grun : s₁.gens[g]? = some .running := gz.2.1 g _ (size_set glt)
      have glt1 : g < s₁.gens.size := (Array.getElem?_eq_some_iff.mp grun).1
      have out : Step (At S) s₁ (({ s₁.setGen g gs' with heap := (s₁.setGen g gs').heap.update S (Obj.mapSeq (·.push v)) } : Shared).setGen g .running) := by
        have u := Step.upd (s := s₁) l1 (Obj.mapSeq (·.push v))
        have e : (({ s₁.setGen g gs' with heap := (s₁.setGen g gs').heap.update S (Obj.mapSeq (·.push v)) } : Shared).setGen g .running) = { s₁ with heap := s₁.heap.update S (Obj.mapSeq (·.push v)) } := by
          show ({ s₁ with heap := _, gens := (s₁.gens.setIfInBounds g gs').setIfInBounds g .running } : Shared) = _
          rw [gens_same grun]
          rfl
        rw [e]
        exact u
      have e4 : ys.toArray.push v = (ys ++ [v]).toArray := by simp
      refine ⟨⟨_, (get?_update_seq l1 (·.push v)).trans (congrArg (fun x => some (seqObj "list" x _)) e4)⟩, by simp [hlen], st2, ?_, ?_, gs', ?_, fun s'' h2 o2 l2 => ?_⟩
      · exact IsGen.stepX (X := At S) (s := s₁) (s' := (({ s₁.setGen g gs' with heap := (s₁.setGen g gs').heap.update S (Obj.mapSeq (·.push v)) } : Shared).setGen g .running)) (stay.gen B.is) out (show ¬ a = S from aS)
      · exact hH _ s₁ (({ s₁.setGen g gs' with heap := (s₁.setGen g gs').heap.update S (Obj.mapSeq (·.push v)) } : Shared).setGen g .running) (hold ys (by omega) B.hold) out
      · exact size_set glt1
      · have := kap s'' h2 (out.trans o2) ⟨_, l2⟩
        have e3 : N - (i + 1) = k := by omega
        rw [e3]
        exact this
    · have := hp.1
      omega
end
end Mine
end
section
open PySem PySem.W PySem.W.X PyProof.Rows
namespace Mine
theorem step_gen {X : Addr → Prop} {s s' : Shared} {g : Nat} {x : GenState} (h : Step X s s') (e : s'.gens = s.gens := by rfl) : Step X (s.setGen g x) (s'.setGen g x) := by
  refine ⟨h.keep, h.there, h.tabs, h.os, ?_, h.tab⟩
  show GensOk (s.gens.setIfInBounds g x) (s'.gens.setIfInBounds g x)
  rw [e]; exact GensOk.refl _
section
variable {prog : Program} {w : World} {A : Around} {s : Shared}
theorem extend_gen {sC : Shared} {S a : Addr} {g N : Nat} {H : List Value → Heap → Prop} {P : Params} {res : Value} {R : Result → Shared → Prop} (hh : A.handled = none) (hroom : A.depth < recursionLimit) (X : (KP P).In sC.heap) (hgC : sC.gens.size ≤ g) (aS : a ≠ S) (hN : N ≤ 1000)
    (nS : sC.heap.get? S = none) (hH : ∀ ys s s', H ys s.heap → Step (At S) s s' → H ys s'.heap) (hl : IsL s S []) (hs : Step0 sC s) (hg : s.heap.IsGen a g) (h0 : ∀ h, H [] h)
    (go : ∃ gs, s.gens[g]? = some gs ∧ ∀ s'', Step0 sC s'' → IsL s'' S [] → Step (At S) (s.setGen g .running) s'' → gs.Goes (model prog w) A.in1.in1 (GR sC S a H) (GY sC S a N H) N (.send .none) s'')
    (fin : ∀ ys s, IsL s S ys → ys.length = N → Step0 sC s → H ys s.heap → R (.ok (.ret res)) s) :
    wpAny (model prog w) A.in1 (Builtin.List.listExtendWith (.ref S) (.ref a) res)
      (fun fin s' => match fin with | .done f => R (.ok f) s' | .again c' => c'.quiet = true ∧ codeAny (model prog w) A c' R s') (fun e s' => R (.error e) s') s := by
  obtain ⟨n, hS⟩ := hl
  have hS : s.heap.get? S = some (seqObj "list" #[] n) := hS
  unfold Builtin.List.listExtendWith
  refine wpAny_bind (wpAny_typeOf hg.typeIs ?_)
  have h1 : Builtin.List.listSameRef (.ref S) (.ref a) = false := by simp [Builtin.List.listSameRef, Ne.symm aS]
  have h2 : (Value.type "generator" == Value.type "list") = false := by decide
  have h3 : (Value.type "generator" == Value.type "tuple") = false := by decide
  simp only [h1, h2, h3, Bool.or_false, Bool.false_eq_true, if_false]
  refine wpAny_bind (wpAny_pyIter_gen hg ?_)
  refine wpAny_bind (wpAny_holding ?_)
  unfold Builtin.List.listLengthHint
  refine wpAny_bind (wpAny_specialOf hg.typeIs F.gen_no_len ?_)
  show wpAny _ A.in1 (specialOf (Value.ref a) (Str.ofString "__length_hint__") >>= _) _ _ _
  refine wpAny_bind (wpAny_specialOf hg.typeIs F.gen_no_hint ?_)
  refine wpAny_pure ?_
  show wpAny _ A.in1 (rule "list.extend.makes-room" >>= fun _ => Builtin.List.listTouch (.ref S) >>= fun _ =>
    again (.builtin "list.extend.loop" ⟨[.ref S, .ref a, res], []⟩)) _ _ _
  refine wpAny_bind (wpAny_rule ?_)
  refine wpAny_bind ?_
  show wpAny _ A.in1 (updateSeq S (·.push .none) >>= fun _ => updateSeq S (·.pop)) _ _ _
  refine wpAny_bind (wpAny_updateSeq hS rfl ?_)
  have hS2 := get?_update_seq hS (·.push Value.none)
  refine wpAny_updateSeq (hz := by seq_fits) hS2 rfl ?_
  have u1 := Step.upd hS (Obj.mapSeq (·.push Value.none))
  have u2 := Step.upd (s := { s with heap := s.heap.update S (Obj.mapSeq (·.push Value.none)) }) hS2 (Obj.mapSeq (·.pop))
  have hS3 := get?_update_seq hS2 (·.pop)
  have st : Step0 sC { s with heap := (s.heap.update S (Obj.mapSeq (·.push Value.none))).update S (Obj.mapSeq (·.pop)) } := (Step.trans hs.up (u1.trans u2)).new fun b e _ => e ▸ nS
  have out : Step (At S) s { s with heap := (s.heap.update S (Obj.mapSeq (·.push Value.none))).update S (Obj.mapSeq (·.pop)) } := u1.trans u2
  obtain ⟨gs, hgs, go⟩ := go
  have hl3 : IsL { s with heap := (s.heap.update S (Obj.mapSeq (·.push Value.none))).update S (Obj.mapSeq (·.pop)) } S [] := ⟨_, hS3⟩
  refine wpAny_pure ⟨plainId_quiet F.plain_extend_loop _, list_loop hh hroom X hgC aS hN nS hH fin N 0 [] _ (Nat.sub_zero _) (Nat.zero_le _) ⟨hl3, rfl, st, IsGen.stepX (X := At S) hg out (show ¬ a = S from aS), h0 _, gs, hgs, fun s'' k o l => go s'' k l (Step.trans (step_gen out) o)⟩⟩
theorem init_gen {sC : Shared} {S a : Addr} {g N : Nat} {H : List Value → Heap → Prop} {P : Params} {R : Result → Shared → Prop} (hh : A.handled = none) (hroom : A.depth < recursionLimit) (X : (KP P).In sC.heap) (hgC : sC.gens.size ≤ g) (aS : a ≠ S) (hN : N ≤ 1000)
    (nS : sC.heap.get? S = none) (hH : ∀ ys s s', H ys s.heap → Step (At S) s s' → H ys s'.heap) (hl : IsL s S []) (hs : Step0 sC s) (hg : s.heap.IsGen a g) (h0 : ∀ h, H [] h)
    (go : ∃ gs, s.gens[g]? = some gs ∧ ∀ s'', Step0 sC s'' → IsL s'' S [] → Step (At S) (s.setGen g .running) s'' → gs.Goes (model prog w) A.in1.in1 (GR sC S a H) (GY sC S a N H) N (.send .none) s'')
    (fin : ∀ ys s, IsL s S ys → ys.length = N → Step0 sC s → H ys s.heap → R (.ok (.ret .none)) s) :
    wpAny (model prog w) A.in1 (Builtin.«list.__init__» ⟨[.ref S, .ref a], []⟩)
      (fun fin s' => match fin with | .done f => R (.ok f) s' | .again c' => c'.quiet = true ∧ codeAny (model prog w) A c' R s') (fun e s' => R (.error e) s') s := by
  obtain ⟨n, hS⟩ := hl
  have hS : s.heap.get? S = some (seqObj "list" #[] n) := hS
  show wpAny _ A.in1 (do let old ← Builtin.List.listItems (.ref S); Builtin.List.listUpdate (.ref S) (fun _ => #[]); letGo old.toList.reverse; Builtin.List.listExtendWith (.ref S) (.ref a) .none) _ _ s
  refine wpAny_bind (listItems_at hS rfl ?_)
  refine wpAny_bind (listUpdate_at hS rfl ?_)
  have u1 := Step.upd hS (Obj.mapSeq fun _ => (#[] : Array Value))
  have hS2 := get?_update_seq hS (fun _ => (#[] : Array Value))
  have out : Step (At S) s { s with heap := s.heap.update S (Obj.mapSeq fun _ => (#[] : Array Value)) } := u1
  refine wpAny_bind (wpAny_letGo ?_)
  obtain ⟨gs, hgs, go⟩ := go
  exact extend_gen hh hroom X hgC aS hN nS hH ⟨_, hS2⟩ ((Step.trans hs.up u1).new fun b e _ => e ▸ nS) (IsGen.stepX (X := At S) hg out (show ¬ a = S from aS)) h0 ⟨gs, hgs, fun s'' k l o => go s'' k l (Step.trans (step_gen out) o)⟩ fin
theorem c_list_gen {sC : Shared} {a : Addr} {g N : Nat} {H : Addr → List Value → Heap → Prop} {P : Params} {Q : Value → Shared → Prop} (R : Rm A 620 900) (X : (KP P).In sC.heap) (hgC : sC.gens.size ≤ g) (hN : N ≤ 1000)
    (hs : Step0 sC s) (hg : s.heap.IsGen a g) (hH : ∀ S ys s s', H S ys s.heap → Step (At S) s s' → H S ys s'.heap) (h0 : ∀ S h, H S [] h)
    (go : ∀ S, s.heap.get? S = none → S ≠ a → ∃ gs, s.gens[g]? = some gs ∧ ∀ A : Around, Rm A 620 903 → ∀ s'', Step0 sC s'' → IsL s'' S [] → Step (At S) (s.setGen g .running) s'' → gs.Goes (model prog w) A (GR sC S a (H S)) (GY sC S a N (H S)) N (.send .none) s'')
    (fin : ∀ S ys s', IsL s' S ys → ys.length = N → Step0 sC s' → H S ys s'.heap → sC.heap.get? S = none → Q (.ref S) s') :
    wpAny (model prog w) A (call (.type "list") [.ref a]) Q NoE s := by
  have nS : s.heap.get? s.heap.objs.size = none := Heap.get?_none_of_le (Nat.le_refl _)
  have aS : a ≠ s.heap.objs.size := fun e => by
    obtain ⟨o, nm, qn, h, _⟩ := hg
    rw [e, nS] at h; cases h
  refine callType_codes (Q₁ := fun obj s₁ => obj = .ref s.heap.objs.size ∧ s₁ = { s with heap := s.heap.push { cls := .type "list", data := .seq #[] } }) F.called_list (F.typeCall_list_1 _) F.entry_list_init (code_list_new _ ⟨rfl, rfl⟩) fun obj s₁ h₁ => ?_
  obtain ⟨rfl, rfl⟩ := h₁
  have hS : (s.heap.push { cls := .type "list", data := .seq #[] }).get? s.heap.objs.size = some { cls := .type "list", data := .seq #[] } := Heap.get?_push_size _ rfl
  have st : Step0 s { s with heap := s.heap.push { cls := .type "list", data := .seq #[] } } := Step0.push _ _
  refine ⟨⟨_, hS, rfl⟩, F.args_list_init_2 _ _, ?_⟩
  obtain ⟨gs, hgs, go⟩ := go s.heap.objs.size nS aS.symm
  have R1 : Rm A.in1.in1.in1 620 903 := R.in1.in1.in1
  refine init_gen (A := A.in1) (H := H s.heap.objs.size) R.handled (Nat.lt_of_le_of_lt R.depth (by decide)) X hgC aS hN (hs.notThere nS) (hH _) ⟨0, hS⟩ (hs.trans st) (IsGen.stepX hg st id) (h0 _) ⟨gs, hgs, fun s'' k l o => go _ R1 s'' k l (Step.trans (step_gen st.up) o)⟩ fun ys s' hl hn h hHs => ?_
  exact ⟨rfl, fin _ ys s' hl hn h hHs (hs.notThere nS)⟩
end
end Mine
end
section
open PySem PySem.W PySem.W.X PyProof.Rows
namespace Mine
section
variable {M : Model} {A : Around} {R : GenEnd} {Y : Protocol} {n : Nat} {s₀ : Shared} {c : Code} {fs : List Frame} {s : Shared} {env : Env}
theorem seg_bw {α β : Type} {m : Sem α} {f : α → Sem β} {K : β → Sem Fin} {Hd : Value → Sem Fin} {gd : Bool → Bool} {lv : List Value → List Value}
    (h : wpAny M (A.over c fs) m (fun a s' => Seg M A R Y n s₀ c ((f a).wrap K Hd gd lv) fs s') NoE s) : Seg M A R Y n s₀ c ((m >>= f).wrap K Hd gd lv) fs s := by
  rw [Sem.bind_eq_wrap', Sem.wrap_wrap]
  exact seg_wrap (noE h)
theorem seg_st {st : Stmt} {rest : List Stmt} {K : Flow → Sem Fin} {Hd : Value → Sem Fin} {gd : Bool → Bool} {lv : List Value → List Value}
    (h : wpAny M (A.over c fs) (exec st env) (fun f s' => Seg M A R Y n s₀ c (match f with | .next => (execs rest env).wrap K Hd gd lv | f => K f) fs s') NoE s) : Seg M A R Y n s₀ c ((execs (st :: rest) env).wrap K Hd gd lv) fs s :=
  seg_execs_cons (seg_wrap (noE h))
theorem seg_if {test : Expr} {body orelse : List Stmt} {pos : Pos} {K : Flow → Sem Fin} {Hd : Value → Sem Fin} {gd : Bool → Bool} {lv : List Value → List Value}
    (h : wpAny M (A.over c fs) (isTrue test env (eval test env)) (fun b s' => Seg M A R Y n s₀ c ((if b then execs body env else execs orelse env).wrap K Hd gd lv) fs s') NoE s) : Seg M A R Y n s₀ c ((exec (.If test body orelse pos) env).wrap K Hd gd lv) fs s := by
  rw [exec_If]
  exact seg_bw (wpAny_standAt (seg_bw (wpAny_mono h (fun b s' q => by cases b <;> exact q) fun _ _ q => q)))
/-- the frame in which a loop hands back -/
abbrev backFrame (K : Flow → Sem Fin) (Hd : Value → Sem Fin) (gd : Bool → Bool) (lv : List Value → List Value) (c : Code) (env : Env) (p : Pos) : Frame :=
  .ret (fun r => ((match r with | .ok f => (.pure f : Sem Flow) | .error e => .raise e).onRaise fun (x : Value) => do
        if (← field x 1) == Value.none then unsupported "frame.own-activation:exception-without-traceback"
        setFlight x env.frame).wrap K Hd gd lv) none (gd false) (lv []) c p []
theorem seg_for {target iter : Expr} {body : List Stmt} {pos : Pos} {K : Flow → Sem Fin} {Hd : Value → Sem Fin} {gd : Bool → Bool} {lv : List Value → List Value}
    (h : wpAny M (A.over c fs) (eval iter env) (fun x s₁ => wpAny M (A.over c fs) (pyIter x) (fun it s₂ => ∀ p, Seg M A R Y n s₀ (.forLoop target it body [] env) (M.den (.forLoop target it body [] env)) (backFrame K Hd gd lv c env p :: fs) s₂) NoE s₁) NoE s)
    (hs : ∀ x, foldedSetIterable iter env x = pure x := by intro _; rfl) : Seg M A R Y n s₀ c ((exec (.For target iter body [] pos) env).wrap K Hd gd lv) fs s := by
  rw [exec_For]
  refine seg_bw (wpAny_standAt (seg_bw (wpAny_mono h (fun x s₁ h₁ => seg_bw (wpAny_of_eq (hs x) (seg_bw (wpAny_standAt (seg_bw (wpAny_holding (wpAny_mono h₁ (fun it s₂ h₂ => ?_) fun _ _ q => q))))))) fun _ _ q => q)))
  exact seg_call h₂
end
section
variable {prog : Program} {w : World} {A : Around} {R : GenEnd} {Y : Protocol} {n : Nat} {s₀ : Shared} {fs : List Frame} {s : Shared} {env : Env}
abbrev forK (target : Expr) (it : Value) (body : List Stmt) (env : Env) (f : Flow) : Sem Fin := match f with
  | .next | .cont => .pure (.again (.forLoop target it body [] env))
  | .brk => .pure (.done .next)
  | .ret v => .pure (.done (.ret v))
abbrev noteH (env : Env) (e : Value) : Sem Fin := (do noteFrame e env; theTreesLotGoes e : Sem Unit).wrap (fun _ => .raise e) .raise id id
theorem seg_for_turn {target : Expr} {it : Value} {body : List Stmt}
    (h : wpAny (model prog w) (A.over (.forLoop target it body [] env) fs) (pyNext it) (fun r s₁ => match r with
      | none => Seg (model prog w) A R Y n s₀ (.forLoop target it body [] env) (.pure (.again (.block [] env))) fs s₁
      | some v => wpAny (model prog w) (A.over (.forLoop target it body [] env) fs) (letOwnedTupleGo target it v) (fun _ s₂ => wpAny (model prog w) (A.over (.forLoop target it body [] env) fs) (assign target env v) (fun _ s₃ =>
          Seg (model prog w) A R Y n s₀ (.forLoop target it body [] env) ((execs body env).wrap (forK target it body env) (noteH env) id id) fs s₃) NoE s₂) NoE s₁) NoE s) :
    Seg (model prog w) A R Y n s₀ (.forLoop target it body [] env) ((model prog w).den (.forLoop target it body [] env)) fs s := by
  show Seg _ A R Y n s₀ _ ((forTurn target it body [] env).onRaise (fun x => do noteFrame x env; theTreesLotGoes x)) fs s
  rw [Sem.onRaise_eq_wrap]
  unfold forTurn
  refine seg_bw (wpAny_standAt (seg_bw (wpAny_onRaise (wpAny_mono h (fun r s₁ h₁ => ?_) fun _ _ q => q.elim))))
  cases r with
  | none => exact h₁
  | some v =>
    refine seg_bw (wpAny_mono h₁ (fun _ s₂ h₂ => seg_bw (wpAny_mono h₂ (fun _ s₃ h₃ => ?_) fun _ _ q => q)) fun _ _ q => q)
    rw [Sem.bind_eq_wrap', Sem.wrap_wrap]
    rw [Sem.wrap_congr (execs body env) _ _ (K' := forK target it body env) (H' := noteH env) (fun f => by cases f <;> rfl)
      (fun e => by first | exact Sem.bind_eq_wrap _ _ | (show (do noteFrame e env; theTreesLotGoes e : Sem Unit).bind (fun _ => .raise e) = _; rw [Sem.bind_eq_wrap]))]
    exact h₃
theorem seg_block_end {c : Code} (h : Seg (model prog w) A R Y n s₀ (.block [] env) (.pure (.done .next)) fs s) : Seg (model prog w) A R Y n s₀ c (.pure (.again (.block [] env))) fs s :=
  seg_again rfl h
theorem seg_for_loop {target : Expr} {I : Addr} {body : List Stmt} {Dp Yw : Addr → Prop} {k : Nat} {B : Nat → (Str → Option Value) → (Str → Option Value) → Prop} {St : Nat → Shared → Prop}
    (S : Src prog w (A.over (.forLoop target (.ref I) body [] env) fs) env target I Dp Yw k B St) (J : Nat → Nat → Shared → Shared → Prop)
    (turn : ∀ i m s₀ s, i < k → St i s → J i m s₀ s → ∃ mm cm, Act env mm cm s ∧ ∀ m' s', B i mm m' → Act env m' cm s' → Step (fun b => b = env.locals ∨ Yw b) s s' → St (i + 1) s' →
      (∀ m₂ s₂ s₃, St (i + 1) s₃ → J (i + 1) m₂ s₂ s₃ → Seg (model prog w) A R Y m₂ s₂ (.forLoop target (.ref I) body [] env) (.pure (.again (.forLoop target (.ref I) body [] env))) fs s₃) →
      Seg (model prog w) A R Y m s₀ (.forLoop target (.ref I) body [] env) ((execs body env).wrap (forK target (.ref I) body env) (noteH env) id id) fs s')
    (fin : ∀ m s₀ s s', J k m s₀ s → Step Yw s s' → ∀ c, Seg (model prog w) A R Y m s₀ c (.pure (.done .next)) fs s') :
    ∀ (j i m : Nat) (s₀ s : Shared), k - i = j → i ≤ k → St i s → J i m s₀ s → Seg (model prog w) A R Y m s₀ (.forLoop target (.ref I) body [] env) ((model prog w).den (.forLoop target (.ref I) body [] env)) fs s := by
  intro j
  induction j with
  | zero =>
    intro i m s₀ s hj hi st hJ
    obtain rfl : i = k := by omega
    refine seg_for_turn (wpAny_mono (S.done s (fun s' => Seg (model prog w) A R Y m s₀ (.forLoop target (.ref I) body [] env) (.pure (.again (.block [] env))) fs s') st fun s' hs' => seg_block_end (fin m s₀ s s' hJ hs' _)) (fun r s₁ q => ?_) fun _ _ q => q)
    cases r with
    | none => exact q
    | some v => exact q.elim
  | succ j ih =>
    intro i m s₀ s hj hi st hJ
    obtain ⟨mm, cm, F, go⟩ := turn i m s₀ s (by omega) st hJ
    refine seg_for_turn (wpAny_mono (S.item i s mm cm (fun s' => Seg (model prog w) A R Y m s₀ (.forLoop target (.ref I) body [] env) ((execs body env).wrap (forK target (.ref I) body env) (noteH env) id id) fs s') (by omega) st F fun m' s' hb F' hs' st' =>
      go m' s' hb F' hs' st' fun m₂ s₂ s₃ st₃ hJ₃ => seg_again rfl (ih (i + 1) m₂ s₂ s₃ (by omega) (by omega) st₃ hJ₃)) (fun r s₁ q => ?_) fun _ _ q => q)
    cases r with
    | none => exact q.elim
    | some v => exact q
theorem seg_back {c c' : Code} {K : Flow → Sem Fin} {Hd : Value → Sem Fin} {gd : Bool → Bool} {lv : List Value → List Value} {p : Pos} (h : Seg (model prog w) A R Y n s₀ c (K .next) fs s) : Seg (model prog w) A R Y n s₀ c' (.pure (.done .next)) (backFrame K Hd gd lv c env p :: fs) s :=
  seg_leaf (.ok .next) h
end
end Mine
end
section
open PySem PySem.W PySem.W.X PyProof.Rows
namespace Mine
theorem rm_func {A : Around} {d u : Nat} {body : List Stmt} {env : Env} (R : Rm A d u) : Rm (A.over (.func body env) []) (d + 4) (u + 12) := by
  refine ⟨?_, ?_, ?_⟩
  · show (marksOver [] (A.handled, A.handled)).1 = none
    exact R.handled
  · show A.depth + frameCount (([] : List Frame).map Frame.where_) + (Code.func body env).weight ≤ d + 4
    have h1 : frameCount (([] : List Frame).map Frame.where_) = 0 := rfl
    have h2 : (Code.func body env).weight ≤ 4 := by (simp [Code.weight, Code.frames, Code.isCreation, Code.isGuard, Code.isCaller]; split <;> decide)
    have := R.depth
    omega
  · show A.units + unitsOf (([] : List Frame).map Frame.where_) + (Code.func body env).cUnits ≤ u + 12
    have h1 : unitsOf (([] : List Frame).map Frame.where_) = 0 := rfl
    have h2 : (Code.func body env).cUnits ≤ 12 := by (simp [Code.cUnits, Code.frames]; split <;> decide)
    have := R.units
    omega
theorem rm_for {A : Around} {d u : Nat} {body body2 : List Stmt} {env : Env} {target : Expr} {it : Value} {K Hd gd lv} {p : Pos} (R : Rm A d u) : Rm (A.over (.forLoop target it body2 [] env) [backFrame K Hd gd lv (.func body env) env p]) (d + 8) (u + 24) := by
  refine ⟨?_, ?_, ?_⟩
  · show (marksOver [backFrame K Hd gd lv (.func body env) env p] (A.handled, A.handled)).1 = none
    simp [marksOver, backFrame, Frame.marks, R.handled, markOver]
  · show A.depth + frameCount ([backFrame K Hd gd lv (.func body env) env p].map Frame.where_) + (Code.forLoop target it body2 [] env).weight ≤ d + 8
    have h1 : frameCount ([backFrame K Hd gd lv (.func body env) env p].map Frame.where_) ≤ 4 := by (simp [frameCount, backFrame, Frame.where_, Code.weight, Code.frames, Code.isCreation, Code.isGuard, Code.isCaller]; split <;> decide)
    have h2 : (Code.forLoop target it body2 [] env).weight ≤ 4 := by (simp [Code.weight, Code.frames, Code.isCreation, Code.isGuard, Code.isCaller]; split <;> decide)
    have := R.depth
    omega
  · show A.units + unitsOf ([backFrame K Hd gd lv (.func body env) env p].map Frame.where_) + (Code.forLoop target it body2 [] env).cUnits ≤ u + 24
    have h1 : unitsOf ([backFrame K Hd gd lv (.func body env) env p].map Frame.where_) ≤ 12 := by (simp [unitsOf, backFrame, Frame.where_, Code.cUnits, Code.frames]; split <;> decide)
    have h2 : (Code.forLoop target it body2 [] env).cUnits ≤ 12 := by (simp [Code.cUnits, Code.frames]; split <;> decide)
    have := R.units
    omega
section
variable {prog : Program} {w : World} {A : Around} {s : Shared}
/-- what list(G) gives, whenever it is asked -/
def GenGives (prog : Program) (w : World) (sC s : Shared) (G : Addr) (Post : Addr → List Value → Shared → Prop) : Prop :=
  ∀ (A : Around) (Q : Value → Shared → Prop), Rm A 620 900 → (∀ S ys s', Step0 sC s' → IsL s' S ys → Post S ys s' → sC.heap.get? S = none → Q (.ref S) s') → wpAny (model prog w) A (call (.type "list") [.ref G]) Q NoE s
theorem call_gen (k a : Nat) {args : Args} {binds : List (Str × Value)} {Q : Value → Shared → Prop} (X : (KP w.params).In s.heap) (hroom : A.depth < recursionLimit)
    (hbind : peek (KP w.params) ⟨prog, w.params⟩ (bindArgs (fdAt w.params a) args) = some binds)
    (hkind : ∀ L, ∀ x ∈ binds, (fnScope k).names.lookup x.1 = some .local ∨ ((fnScope k).names.lookup x.1 = some .cell ∧ ((cellsFrom (L + 1) (fnScope k).names []).lookup x.1).isSome = true))
    (h : ∀ L, 406 ≤ L → ∀ G g s', Run (EV k a w.params L) s (mL (EV k a w.params L) binds) (mC (EV k a w.params L) binds) s' → s'.heap.IsGen G g → s'.gens[g]? = some (.fresh (.func (fnBody k) (EV k a w.params L))) → s.gens.size ≤ g → s.heap.get? G = none → ¬ Hot (EV k a w.params L) G → Q (.ref G) s')
    (c1 : (KP w.params).lookup a = some (objAt w.params a) := by kernel_rfl) (c2 : (objAt w.params a).data = .func (fdAt w.params a) := by kernel_rfl) (c3 : (fdAt w.params a).body = .stmts (fnBody k) := by kernel_rfl)
    (c4 : (fdAt w.params a).scope = fnScope k := by kernel_rfl) (c5 : (fdAt w.params a).globals = mainGlobals := by kernel_rfl) (c6 : (fdAt w.params a).builtins = builtinsNs := by kernel_rfl) (c7 : (fdAt w.params a).closure = [] := by kernel_rfl)
    (c8 : codeIn (KP w.params) (fdAt w.params a).code (fdAt w.params a).qualname = true := by kernel_rfl) (c9 : (fnScope k).isCoroutine = false := by kernel_rfl) (c10 : (fnScope k).isGenerator = true := by kernel_rfl) (c11 : (fnScope k).kind = .function := by kernel_rfl) :
    wpAny (model prog w) A (call (.ref a) args.pos args.kw) Q NoE s := by
  refine wpAny_call (codeAny_call_generator (body := fnBody k) hroom (X _ _ c1) c2 (by rw [c4]; exact c9) (by rw [c4]; exact c10) c3 (codeRec_of X c8) ?_)
  refine (Looks.of_peek (M := model prog w) X hbind).here ?_
  rw [c4, c5, c6, c7]
  refine wpAny_newFunctionEnv_cells c11 (hkind _) fun env he s' x => ?_
  obtain ⟨h', tk, rfl⟩ := x.toInCall.same
  have st : Step0 s { s with heap := h', toks := tk } := Step0.of_heap x.toInCall.keep
  have hL : env.locals = s.heap.objs.size := by rw [he]; rfl
  have lt : ∀ b, Hot env b → s.heap.objs.size ≤ b := by
    rintro b (rfl | ⟨n, hc⟩)
    · rw [hL]; exact Nat.le_refl _
    · rw [← hL]; exact Nat.le_of_lt (x.above _ _ (PySem.mem_of_lookup hc.1))
  have F : Run env s (mL env binds) (mC env binds) { s with heap := h', toks := tk } := ⟨⟨x.toInCall.ns, fun n c hc => x.cell n c hc.1, fun n n' c h1 h2 => name_of_addr x.apart (PySem.mem_of_lookup h1.1) (PySem.mem_of_lookup h2.1), fun n c hc => Nat.ne_of_gt (x.above _ _ (PySem.mem_of_lookup hc.1)), fun b hb => Nat.le_trans (size_ge X) (lt b hb)⟩, st, fun b hb => Heap.get?_none_of_le (lt b hb)⟩
  have env_eq : env = EV k a w.params s.heap.objs.size := he
  refine ⟨noLimit (F.K X), ?_⟩
  have nG : h'.get? h'.objs.size = none := Heap.get?_none_of_le (Nat.le_refl _)
  have cG := F.hotAt nG
  have st2 : Step0 { s with heap := h', toks := tk } { ({ s with heap := h', toks := tk } : Shared) with gens := s.gens.push (.fresh (.func (fnBody k) env)), toks := tk + 1 + 1, heap := h'.push { cls := .type "generator", data := .fields #[.int s.gens.size 0, .str (fdAt w.params a).name tk, .str (fdAt w.params a).qualname (tk + 1)] } } := by
    refine ⟨fun b o e _ _ => Heap.get?_push_of_some _ e, fun b o e _ => ⟨o, Heap.get?_push_of_some _ e⟩, fun b o e _ _ => Heap.get?_push_of_some _ e, rfl, ⟨by simp, fun i y e => ?_, fun i y hi e => ?_⟩, fun x => x.keep fun b o e _ => Heap.get?_push_of_some _ e⟩
    · have lt : i < s.gens.size := (Array.getElem?_eq_some_iff.mp e).1
      show (s.gens.push _)[i]? = some y
      rw [Array.getElem?_push, if_neg (by omega)]
      exact e
    · have e : (s.gens.push (.fresh (.func (fnBody k) env)))[i]? = some y := e
      have hi : s.gens.size ≤ i := hi
      rw [Array.getElem?_push] at e
      split at e
      · cases e; rfl
      · have : i < s.gens.size := (Array.getElem?_eq_some_iff.mp e).1
        omega
  subst env_eq
  refine h s.heap.objs.size (size_ge X) h'.objs.size s.gens.size _ (F.step0 st2) ⟨_, _, _, Heap.get?_push_size _ rfl, rfl, rfl, rfl⟩ (by simp) (Nat.le_refl _) (F.newAt nG) cG
end
end Mine
end
section
open PySem PySem.W PySem.W.X PyProof.Rows
namespace Mine
section
variable {prog : Program} {w : World} {A : Around} {s : Shared} {Q : Value → Shared → Prop}
theorem op_iaddL {a b : Addr} {vs ws : List Value} (h : IsL s a vs) (h' : IsL s b ws) (hz : vs.length + ws.length ≤ 1000) (k : ∀ s', IsL s' a (vs ++ ws) → Step (fun x => x = a) s s' → Q (.ref a) s') : wpAny (model prog w) A (inplaceOp .Add (.ref a) (.ref b)) Q NoE s := by
  obtain ⟨n, e⟩ := h
  obtain ⟨m, e'⟩ := h'
  have ta : s.TypeIs (.ref a) "list" := ⟨_, e, rfl⟩
  have tb : s.TypeIs (.ref b) "list" := ⟨_, e', rfl⟩
  have hlk := F.slot_list_iadd.lookup
  have hss : isSeqSlot (some (.builtin "list.__iadd__")) = true := by decide +kernel
  unfold inplaceOp
  refine wpAny_holding ?_
  have hfi : fillsInplaceSlot (.type "list") "add" (Operator.Add == .Add) = pure false := by
    unfold fillsInplaceSlot
    show (typeLookup (.type "list") (dunderI "add") >>= fun fi => pure (fi.isSome && !isSeqSlot fi)) = pure false
    rw [hlk]
    show (pure (true && !isSeqSlot (some (.builtin "list.__iadd__"))) : Sem Bool) = pure false
    rw [hss]; rfl
  have hsi : seqSlot? (.type "list") (dunderI "add") = pure (some (.builtin "list.__iadd__")) := by
    unfold seqSlot?
    rw [hlk]
    rw [pure_bind, hss]; rfl
  refine wpAny_bind (wpAny_typeOf ta (wpAny_bind (wpAny_of_eq hfi ?_)))
  show wpAny _ A (if false = true then _ else _) Q NoE s
  rw [if_neg Bool.false_ne_true]
  refine wpAny_bind (wpAny_binaryOp1_none (nm := "add") ta tb noFill_list_add ?_)
  refine wpAny_bind (wpAny_of_eq hsi ?_)
  refine wpAny_bind (wpAny_rule ?_)
  have big : ¬(!vs.toArray.isEmpty && Builtin.List.listTooLong (vs.toArray.size + ws.toArray.size)) = true := by
    have : Builtin.List.listTooLong (vs.toArray.size + ws.toArray.size) = false := by
      simp [Builtin.List.listTooLong, sizeLine]
      omega
    rw [this]; simp
  refine call_meets F.slot_list_iadd ta F.entry_list_iadd (F.args_list_iadd_2 _ _) (AutoSeq1.list___iadd___list_list_0 a vs.toArray n b ws.toArray m big (by simp; exact Nat.le_trans (by omega) (show 1000 ≤ sizeLine by decide)) (by simp; exact Nat.le_trans (by omega) (show 1000 ≤ sizeLine + 1 by decide))) ⟨e, e', ?_⟩
  refine k _ ?_ (Step.of_same (t := s.toks) rfl (Heap.SameBut.update ..) fun o q => by rw [e] at q; cases q; rfl)
  have e : s.heap.get? a = some (seqObj "list" vs.toArray n) := e
  have := get?_update_seq e fun x => x ++ ws.toArray
  refine ⟨_, this.trans (congrArg (fun x => some (seqObj "list" x _)) ?_)⟩
  simp
end
end Mine
end
section
open PySem PySem.W PySem.W.X PyProof.Rows
namespace Mine
theorem ne_new {s : Shared} {a b : Addr} (h : ∃ o, s.heap.get? a = some o) (n : s.heap.get? b = none) : a ≠ b := fun e => by
  obtain ⟨o, q⟩ := h
  rw [e, n] at q; cases q
section
variable {prog : Program} {w : World} {A : Around} {s : Shared} {Q : Value → Shared → Prop} {a b : Int} {t u : Tok}
theorem op_addi (h : ∀ t s', Step0 s s' → Q (.int (a + b) t) s') : wpAny (model prog w) A (binaryOp .Add (.int a t) (.int b u)) Q NoE s := PyProof.Rows.add_int (h _ _ (Step0.toks _ _))
theorem op_subi (h : ∀ t s', Step0 s s' → Q (.int (a - b) t) s') : wpAny (model prog w) A (binaryOp .Sub (.int a t) (.int b u)) Q NoE s := PyProof.Rows.sub_int (h _ _ (Step0.toks _ _))
theorem op_modi (hb : b ≠ 0) (h : ∀ t s', Step0 s s' → Q (.int (a.fmod b) t) s') : wpAny (model prog w) A (binaryOp .Mod (.int a t) (.int b u)) Q NoE s := PyProof.Rows.mod_int hb (h _ _ (Step0.toks _ _))
theorem op_muli (ha : -(2 ^ 64) < a ∧ a < 2 ^ 64) (h : ∀ t s', Step0 s s' → Q (.int (a * b) t) s') : wpAny (model prog w) A (binaryOp .Mult (.int a t) (.int b u)) Q NoE s := PyProof.Rows.mul_int (h _ _ (Step0.toks _ _)) (IntMulOk.of_left (intBits_le_64 ha.1 ha.2))
theorem op_divi (hb : b ≠ 0) (hs : Builtin.divisionGoesByPylong a b = false) (h : ∀ t s', Step0 s s' → Q (.int (a.fdiv b) t) s') : wpAny (model prog w) A (binaryOp .FloorDiv (.int a t) (.int b u)) Q NoE s := PyProof.Rows.floordiv_int hb (h _ _ (Step0.toks _ _)) (.inl hs)
/-- list(l) of a list -/
theorem op_listL {l : Addr} {vs : List Value} (h : IsL s l vs) (hz : vs.length ≤ 1000) (k : ∀ r s', Step0 s s' → IsL s' r vs → s.heap.get? r = none → Q (.ref r) s') : wpAny (model prog w) A (call (.type "list") [.ref l]) Q NoE s := by
  obtain ⟨n, ho⟩ := h
  exact call_list_seq l (.inl rfl) ho rfl rfl (fun h' c' hk hr => k _ _ (Step0.of_heap (t := s.toks) hk) ⟨c', hr⟩ (Heap.get?_none_of_le (Nat.le_refl _))) (by rw [List.size_toArray]; exact Nat.le_trans hz (by decide))
/-- range(n), and its iterator -/
theorem op_range {n : Nat} (hn : n ≤ 1000) (h4 : 406 ≤ s.heap.objs.size) (k : ∀ r s', Step0 s s' → (∀ (A' : Around) (Q' : Value → Shared → Prop), (∀ I s'', Step0 s' s'' → IsRangeIter s''.heap I 0 n 1 → s'.heap.get? I = none → 406 ≤ I → Q' (.ref I) s'') → wpAny (model prog w) A' (pyIter (.ref r)) Q' NoE s') → Q (.ref r) s') :
    wpAny (model prog w) A (call (.type "range") [.int n t]) Q NoE s := by
  refine call_range_1 (k _ _ ((Step0.push s _).trans (Step0.toks _ _)) fun A' Q' k' => ?_)
  have sm : Builtin.Range.small 0 (n : Int) 1 = true := by
    unfold Builtin.Range.small
    rw [rangeSize_one]
    have h1 : Builtin.Range.rangeFitsLong (n : Int) = true := by simp [Builtin.Range.rangeFitsLong]; omega
    have h2 : Builtin.Range.rangeFitsLong (n + (1 - 1) : Int) = true := by simp [Builtin.Range.rangeFitsLong]; omega
    have h0 : Builtin.Range.rangeFitsLong 0 = true := by decide
    have h3 : Builtin.Range.rangeFitsLong 1 = true := by decide
    rw [show (if (0 : Int) < n then (n : Int) - 0 else 0) = n by split <;> omega]
    simp [h0, h1, h2, h3]
  refine wpAny_pyIter_range (IsRange.new _ _ _ _ _ _ _) sm ?_
  refine k' _ _ (Step0.push _ _) ?_ (Heap.get?_none_of_le (Nat.le_refl _)) (Nat.le_trans h4 (by simp [size_push']))
  have e : Builtin.Range.rangeSize 0 (n : Int) 1 = n := by rw [rangeSize_one]; split <;> omega
  rw [e]
  exact Heap.get?_push_size _ rfl
end
end Mine
end
section
open PySem PySem.W PySem.W.X PyProof.Rows
namespace Mine
/-! do_batch -/
def chunk (p : Nat) (xs : List Value) (j : Nat) : List Value := (xs.drop (j * p)).take p
def batchN (p n : Nat) : Nat := if n = 0 then 0 else (n - 1) / p + 1
def padTo (p : Nat) (fv : Value) (xs : List Value) : List Value := if fv = .none then xs else xs ++ List.replicate (p - xs.length) fv
def LsAt (S : Addr) (f : Nat → List Value) (ys : List Value) (h : Heap) : Prop := ∀ (j : Nat) (y : Value), ys[j]? = some y → ∃ r n, y = .ref r ∧ r ≠ S ∧ h.get? r = some (lst (f j) n)
theorem LsAt.nil (S f h) : LsAt S f [] h := fun j y e => by simp at e
theorem LsAt.step {S : Addr} {f : Nat → List Value} {ys : List Value} {s s' : Shared} {X : Addr → Prop} (h : LsAt S f ys s.heap) (st : Step X s s') (hx : ∀ b xs, X b → b ≠ S → ¬ IsL s b xs) : LsAt S f ys s'.heap := fun j y e =>
  let ⟨r, n, a, b, c⟩ := h j y e; ⟨r, n, a, b, st.keep _ _ c rfl fun x => hx r _ x b ⟨n, c⟩⟩
theorem LsAt.out {S : Addr} {f : Nat → List Value} {ys : List Value} {s s' : Shared} (h : LsAt S f ys s.heap) (st : Step (At S) s s') : LsAt S f ys s'.heap := h.step st fun b xs e n => absurd e n
theorem LsAt.snoc {S : Addr} {f : Nat → List Value} {ys : List Value} {s : Shared} {r : Addr} (h : LsAt S f ys s.heap) (hr : IsL s r (f ys.length)) (n : r ≠ S) : LsAt S f (ys ++ [.ref r]) s.heap := fun j y e => by
  by_cases hj : j < ys.length
  · rw [List.getElem?_append_left hj] at e; exact h j y e
  · rw [List.getElem?_append_right (by omega)] at e
    have : j - ys.length = 0 := by
      have := (List.getElem?_eq_some_iff.mp e).1
      simp at this; omega
    rw [this] at e
    simp at e
    subst e
    have hj' : j = ys.length := by omega
    subst hj'
    obtain ⟨m, hm⟩ := hr
    exact ⟨r, m, rfl, n, hm⟩
theorem stays_of {X : Addr → Prop} {s₀ s : Shared} {S G : Addr} {g : Nat} (st : Step X s₀ s) (hS : ∃ xs, IsL s₀ S xs) (hG : s₀.heap.IsGen G g) (nS : ¬ X S) (nG : ¬ X G) : Stays S G s₀ s := by
  rintro b o (rfl | rfl) e
  · obtain ⟨xs, n, e2⟩ := hS
    rw [e] at e2; cases e2
    exact st.keep _ _ e rfl nS
  · obtain ⟨o', nm, qn, e2, hc, _⟩ := hG
    rw [e] at e2; cases e2
    exact st.keep _ _ e (by unfold isTab; rw [hc]) nG
theorem Run.setGen {env : Env} {s₀ s : Shared} {m cm} (F : Run env s₀ m cm s) {g : Nat} {x : GenState} (hg : s₀.gens.size ≤ g) (hb : x.bare = true) : Run env s₀ m cm (s.setGen g x) := ⟨⟨F.act.ns, F.act.cell, F.act.apart, F.act.off, F.act.above⟩, F.since.setGen hg hb, F.new⟩
theorem Act.notList {env : Env} {m cm} {s : Shared} (F : Act env m cm s) {b : Addr} {xs : List Value} (h : Hot env b) : ¬ IsL s b xs := by
  rintro ⟨n, e⟩
  rcases h with rfl | ⟨x, hx⟩
  · obtain ⟨o, es, ep, e2, d, _⟩ := F.ns
    rw [e] at e2; cases e2; cases d
  · obtain ⟨o, e2, d⟩ := F.cell x b hx
    rw [e] at e2; cases e2; cases d
theorem iter_notList {s : Shared} {I l : Addr} {i : Nat} (h : s.heap.IsListIter I l i) {xs : List Value} : ¬ IsL s I xs := by
  rintro ⟨n, e⟩
  obtain ⟨o, e2, c, _⟩ := h
  rw [e] at e2; cases e2; simp [lst] at c
/-- between two yields of do_batch, within the loop -/
structure BJ (env : Env) (sC : Shared) (S G I : Addr) (g N p : Nat) (t : Tok) (fv : Value) (xs : List Value) (i m : Nat) (s₀ s : Shared) (mm cm : Str → Option Value) (tm : Addr) (y : Nat) : Prop where
  run : Run env sC mm cm s
  lc : mm "linecount" = some (.int p t)
  fw : mm "fill_with" = some fv
  tmp : mm "tmp" = some (.ref tm)
  list : IsL s tm ((xs.take i).drop (y * p))
  cold : ¬ Hot env tm
  nI : tm ≠ I
  nS : tm ≠ S
  nG : tm ≠ G
  new : s₀.heap.get? tm = none
  cnt : y + m = N
  lo : y * p ≤ i
  hi : i ≤ y * p + p
  pos : 0 < i → y * p < i
  step : Step (fun b => Hot env b ∨ b = I) s₀ s
  bad : ∀ b xs, (Hot env b ∨ b = I) → ¬ IsL s₀ b xs
  base : Step0 sC s₀
  S₀ : ∃ xs, IsL s₀ S xs
  G₀ : s₀.heap.IsGen G g
theorem BJ.stays {env sC S G I g N p t fv xs i m} {s₀ s : Shared} {mm cm tm y} (J : BJ env sC S G I g N p t fv xs i m s₀ s mm cm tm y) (cS : ¬ Hot env S) (cG : ¬ Hot env G) (IS : I ≠ S) (IG : I ≠ G) : Stays S G s₀ s :=
  stays_of J.step J.S₀ J.G₀ (fun q => q.elim cS IS.symm) (fun q => q.elim cG IG.symm)
def BatchH (p : Nat) (fv : Value) (xs : List Value) (S : Addr) : List Value → Heap → Prop := LsAt S fun j => padTo p fv (chunk p xs j)
theorem chunk_full {p y : Nat} {xs : List Value} (h : y * p + p ≤ xs.length) : (chunk p xs y).length = p := by
  unfold chunk; simp; omega
theorem padTo_full {p : Nat} {fv : Value} {l : List Value} (h : l.length = p) : padTo p fv l = l := by unfold padTo; split <;> simp [h]
theorem take_drop_chunk {p y i : Nat} {xs : List Value} (h : i = y * p + p) : (xs.take i).drop (y * p) = chunk p xs y := by
  unfold chunk
  rw [List.drop_take, h, Nat.add_sub_cancel_left]
theorem div_ge {p y n : Nat} (hp : 1 ≤ p) (h : y * p ≤ n) : y ≤ n / p := (Nat.le_div_iff_mul_le hp).mpr h
theorem div_lt {p y n : Nat} (hp : 1 ≤ p) (h : n < y * p + p) : n / p ≤ y := by
  have : n / p < y + 1 := (Nat.div_lt_iff_lt_mul hp).mpr (by rw [Nat.succ_mul]; exact h)
  omega
section
variable {prog : Program} {w : World} {A : Around} {s : Shared}
theorem c_batch {l : Addr} {xs : List Value} {p : Nat} {t : Tok} {fv : Value} {args : Args} {Q : Value → Shared → Prop} (R : Rm A 640 940) (X : (KP w.params).In s.heap) (hl : IsL s l xs) (hz : xs.length ≤ 100) (hp : 1 ≤ p) (hp2 : p ≤ 100) (hfv : fv = .none ∨ ∃ x t, fv = .str x t)
    (hbind : peek (KP w.params) ⟨prog, w.params⟩ (bindArgs (fdAt w.params 303) args) = some [(("value" : Str), Value.ref l), ("linecount", .int p t), ("fill_with", fv)])
    (h : ∀ G s', Step0 s s' → GenGives prog w s s' G (fun S ys s'' => ys.length = batchN p xs.length ∧ BatchH p fv xs S ys s''.heap) → Q (.ref G) s') :
    wpAny (model prog w) A (call (.ref 303) args.pos args.kw) Q NoE s := by
  refine call_gen 23 303 X (Nat.lt_of_le_of_lt R.depth (by decide)) hbind (fun L => List.forall_mem_cons.mpr ⟨.inl (by kernel_rfl), List.forall_mem_cons.mpr ⟨.inl (by kernel_rfl), List.forall_mem_cons.mpr ⟨.inl (by kernel_rfl), List.forall_mem_nil _⟩⟩⟩) (fun L hL G g s1 F1 hG hg hgC nG cG => h G s1 F1.since ?_)
  intro A' Q' R' k
  have hN : batchN p xs.length ≤ 1000 := by
    unfold batchN
    split
    · omega
    · have := Nat.div_le_self (xs.length - 1) p
      omega
  refine c_list_gen (sC := s) (g := g) (N := batchN p xs.length) (H := BatchH p fv xs) R' X hgC hN F1.since hG (fun S ys s s' a b => LsAt.out a b) (fun S h => LsAt.nil _ _ _) (fun S nS SG => ⟨_, hg, fun A R s2 st2 hS2 out => ⟨rfl, ?_⟩⟩) (fun S ys s' hls hn st hh nSC => k S ys s' st hls ⟨hn, hh⟩ nSC)
  have R0 := rm_func (body := fnBody 23) (env := EV 23 303 w.params L) R
  have cS : ¬ Hot (EV 23 303 w.params L) S := F1.hotAt nS
  have nSC : s.heap.get? S = none := F1.newAt nS
  have F2 : Run (EV 23 303 w.params L) s _ _ s2 := (F1.setGen (x := .running) hgC rfl).stepX out (fun b e => e ▸ cS) (fun b e => e ▸ nSC)
  have G2 : s2.heap.IsGen G g := IsGen.stepX (X := At S) (s := s1.setGen g .running) hG out (show ¬ G = S from SG.symm)
  obtain ⟨ol, hol⟩ := hl.some
  refine seg_func ?_
  -- tmp = []
  refine seg_st (wpAny_Assign_Name (List_ (spliced_none (op_newList (by decide) (fun tm s3 h3 htm ntm _ => ?_) (size_ge (F2.K X))))))
  have F3 := F2.step0 h3
  refine g_st F3 fun s4 F4 h4 => ?_
  have htm4 := htm.step h4 (F2.hotAt ntm)
  -- for item in value
  refine seg_execs_cons (seg_for (g_ld F4 (v := .ref l) (by kernel_rfl) (iter_list (hl.step0 F4.since).is (fun I s5 hit h5 nI hI4 => fun pp => ?_) (size_ge (F4.K X)))))
  have F5 := F4.step0 h5
  have cI : ¬ Hot (EV 23 303 w.params L) I := F4.hotAt nI
  have lI : l ≠ I := ne_new (hl.step0 F4.since).some nI
  have S4 : IsL s4 S [] := (hS2.step0 h3).step h4 cS
  have IS : I ≠ S := fun e => (by obtain ⟨o, q⟩ := S4.some; rw [← e, nI] at q; cases q)
  have G4 : s4.heap.IsGen G g := IsGen.stepX (IsGen.stepX G2 h3 id) h4 cG
  have IG : I ≠ G := fun e => (by obtain ⟨o, _, _, q, _⟩ := G4; rw [← e, nI] at q; cases q)
  have nI2 : s2.heap.get? I = none := by
    cases e : s2.heap.get? I with
    | none => rfl
    | some o =>
      obtain ⟨o', e'⟩ := (h3.up.trans h4).there I o e cI
      rw [nI] at e'; cases e'
  have nIC : s.heap.get? I = none := F4.newAt nI
  refine seg_for_loop (src_list (rm_for R).handled cI (F4.cold hol) lI hI4 (by kernel_rfl) (by kernel_rfl)) (fun i m s₀ s' => ∃ mm cm tm y, BJ (EV 23 303 w.params L) s S G I g (batchN p xs.length) p t fv xs i m s₀ s' mm cm tm y) ?turn ?fin _ 0 (batchN p xs.length) s2 s5 (Nat.sub_zero _) (Nat.zero_le _) ⟨hit, (hl.step0 F5.since).is⟩
    ⟨_, _, tm, 0, F5, by kernel_rfl, by kernel_rfl, by kernel_rfl, by simpa using htm4.step0 h5, F2.hotAt ntm, ne_new htm4.some nI, (ne_new hS2.some ntm).symm, (ne_new (let ⟨o, _, _, q, _⟩ := G2; ⟨o, q⟩) ntm).symm, ntm, by simp, by simp, by simp, fun q => absurd q (by simp), (h3.up.trans (h4.mono fun b e => .inl e)).trans h5.up, ?bad, st2, ⟨_, hS2⟩, G2⟩
  case bad =>
    rintro b zs (hh | rfl) hb
    · exact F2.act.notList hh hb
    · obtain ⟨n, e⟩ := hb
      rw [nI2] at e; cases e
  case turn =>
    rintro i m s₀ s6 hi st6 ⟨mm, cm, tm, y, J⟩
    refine ⟨mm, cm, J.run.act, ?_⟩
    rintro m' s7 ⟨v, hv, rfl⟩ F7' h7 st7 ih
    have hv' : xs[i]? = some v := by simpa using hv
    have hi' : i < xs.length := (List.getElem?_eq_some_iff.mp hv').1
    have F7 : Run (EV 23 303 w.params L) s _ cm s7 := ⟨F7', (Step.trans J.run.since.up h7).new (fun b hb _ => hb.elim (fun e => J.run.new b (.inl e)) fun e => e ▸ nIC), J.run.new⟩
    have l7 := J.list.step h7 (fun q => q.elim (fun e => J.cold (.inl e)) J.nI)
    have st07 := J.step.trans (h7.mono fun b e => e.imp .inl id)
    have hlen : ((xs.take i).drop (y * p)).length = i - y * p := by simp; omega
    have lo := J.lo
    have hi2 := J.hi
    have cnt := J.cnt
    have tmp7 : (fun z : Str => if z = "item" then some v else mm z) "tmp" = some (.ref tm) := keepN J.tmp
    have lc7 : (fun z : Str => if z = "item" then some v else mm z) "linecount" = some (.int p t) := keepN J.lc
    have fw7 : (fun z : Str => if z = "item" then some v else mm z) "fill_with" = some fv := keepN J.fw
    have item7 : (fun z : Str => if z = "item" then some v else mm z) "item" = some v := putN
    -- if len(tmp) == linecount
    refine seg_execs_cons (seg_if (wpAny_isTrue_Compare1 (Call_ (g_built F7 X (.builtin "len") (cw_builtin (spliced_more (g_ld F7 tmp7 (spliced_none (op_len (rm_for R).mono l7 (by omega) fun t8 s8 h8 => ?_)))))))))
    have F8 := F7.step0 h8
    have l8 := l7.step0 h8
    have st08 := st07.trans h8.up
    refine g_ld F8 lc7 (PyProof.Rows.eq_int (wpAny_truthy_bool ?_))
    rw [hlen]
    by_cases hb : i - y * p = p
    · have e : (((i - y * p : Nat) : Int) == (p : Int)) = true := by rw [hb]; simp
      rw [e]
      simp only [if_true]
      have hfull : i = y * p + p := by omega
      obtain ⟨m1, rfl⟩ : ∃ m1, m = m1 + 1 := by
        have : y < batchN p xs.length := by
          unfold batchN
          rw [if_neg (by omega)]
          have := div_ge (n := xs.length - 1) hp (show y * p ≤ xs.length - 1 by omega)
          omega
        exact ⟨m - 1, by omega⟩
      -- yield tmp
      refine seg_execs_cons (seg_Expr_Yield rfl rfl rfl (g_ld F8 tmp7 ?_))
      intro kap hk
      have stay := stays_of st08 J.S₀ J.G₀ (fun q => q.elim cS IS.symm) (fun q => q.elim cG IG.symm)
      have hch : IsL s8 tm (padTo p fv (chunk p xs y)) := by
        rw [padTo_full (chunk_full (by omega)), ← take_drop_chunk hfull]; exact l8
      refine ⟨F8.since, st08.gens, stay, fun ys hy hh => LsAt.snoc (LsAt.step hh st08 fun b zs e _ => J.bad b zs e) (by rw [show ys.length = y by omega]; exact hch) J.nS, fun s9 k9 o9 S9 => hk .none s9 ?_⟩
      have F9 : Run (EV 23 303 w.params L) s _ cm s9 := F8.stepX o9 (fun b e => e ▸ cS) (fun b e => e ▸ nSC)
      have G9 : s9.heap.IsGen G g := IsGen.stepX (stay.gen J.G₀) o9 (show ¬ G = S from SG.symm)
      have st9 : s9.heap.IsListIter I l (i + 1) ∧ s9.heap.IsList l xs.toArray := ⟨isIter_step (isIter_step st7.1 h8 id) o9 (show ¬ I = S from IS), isList_step (isList_step st7.2 h8 id) o9 (show ¬ l = S from ne_new ⟨_, hol⟩ nSC)⟩
      -- tmp = []
      refine seg_st (wpAny_Assign_Name (List_ (spliced_none (op_newList (by decide) (fun tn s10 h10 htn ntn _ => ?_) (size_ge (F9.K X))))))
      have F10 := F9.step0 h10
      refine g_st F10 fun s11 F11 h11 => ?_
      have cn := F9.hotAt ntn
      have htn11 := htn.step h11 cn
      have nnI : tn ≠ I := (ne_new (let ⟨o, q, _⟩ := st9.1; ⟨o, q⟩) ntn).symm
      have nnS : tn ≠ S := (ne_new (let ⟨_, q⟩ := S9; q.some) ntn).symm
      have nnG : tn ≠ G := (ne_new (let ⟨o, _, _, q, _⟩ := G9; ⟨o, q⟩) ntn).symm
      have tmp11 : (fun z : Str => if z = "tmp" then some (Value.ref tn) else if z = "item" then some v else mm z) "tmp" = some (.ref tn) := putN
      have item11 : (fun z : Str => if z = "tmp" then some (Value.ref tn) else if z = "item" then some v else mm z) "item" = some v := by kernel_rfl
      -- tmp.append(item)
      refine seg_st (wpAny_Expr_any (MethodCall_ (g_ld F11 tmp11 (meth_append htn11 (cw_builtin (spliced_more (g_ld F11 item11 (spliced_none (op_append htn11 (by simp) fun s12 htn12 h12 => ?_)))))))))
      have F12 := F11.stepX h12 (fun b e => e ▸ cn) (fun b e => e ▸ F9.newAt ntn)
      have st912 : Step (fun b => Hot (EV 23 303 w.params L) b ∨ b = I) s9 s12 := (Step.trans (X := fun b => (Hot (EV 23 303 w.params L) b ∨ b = I) ∨ b = tn) (h10.up.trans (h11.mono fun b e => Or.inl (Or.inl e))) (h12.mono fun b e => Or.inr e)).new fun b hb nb => hb.elim (fun e => absurd e nb) fun e => e ▸ ntn
      refine ih m1 s9 s12 ⟨isIter_step (isIter_step (isIter_step st9.1 h10 id) h11 cI) h12 (show ¬ I = tn from nnI.symm), isList_step (isList_step (isList_step st9.2 h10 id) h11 (F4.cold hol)) h12 (show ¬ l = tn from ne_new (let ⟨o, q, _⟩ := st9.2; ⟨o, q⟩) ntn)⟩ ⟨_, cm, tn, y + 1, F12, keepN lc7, keepN fw7, tmp11, ?_, cn, nnI, nnS, nnG, ntn, by omega, by rw [Nat.succ_mul]; omega, by rw [Nat.succ_mul]; omega, fun _ => by rw [Nat.succ_mul]; omega, st912, ?_, k9, S9, G9⟩
      · have e2 : (xs.take (i + 1)).drop ((y + 1) * p) = [v] := by
          rw [Nat.succ_mul, ← hfull, List.take_add_one, hv', List.drop_append]
          simp [Nat.min_eq_left (Nat.le_of_lt hi')]
        rw [e2]; simpa using htn12
      · rintro b zs (hh | rfl) hb
        · exact F9.act.notList hh hb
        · exact iter_notList st9.1 hb
    · have e : (((i - y * p : Nat) : Int) == (p : Int)) = false := by simpa using fun h => hb (by omega)
      rw [e]
      simp only [Bool.false_eq_true, if_false]
      refine seg_execs_nil ?_
      refine seg_st (wpAny_Expr_any (MethodCall_ (g_ld F8 tmp7 (meth_append l8 (cw_builtin (spliced_more (g_ld F8 putN (spliced_none (op_append l8 (by omega) fun s9 l9 h9 => ?_)))))))))
      have ntC : s.heap.get? tm = none := J.base.notThere J.new
      have F9 := F8.stepX h9 (fun b e => e ▸ J.cold) (fun b e => e ▸ ntC)
      have st09 : Step (fun b => Hot (EV 23 303 w.params L) b ∨ b = I) s₀ s9 := (Step.trans (X := fun b => (Hot (EV 23 303 w.params L) b ∨ b = I) ∨ b = tm) (st08.mono fun b e => .inl e) (h9.mono fun b e => Or.inr e)).new fun b hb nb => hb.elim (fun e => absurd e nb) fun e => e ▸ J.new
      refine ih m s₀ s9 ⟨isIter_step (isIter_step st7.1 h8 id) h9 (show ¬ I = tm from J.nI.symm), isList_step (isList_step st7.2 h8 id) h9 (show ¬ l = tm from ne_new ⟨_, hol⟩ ntC)⟩ ⟨_, cm, tm, y, F9, lc7, fw7, tmp7, ?_, J.cold, J.nI, J.nS, J.nG, J.new, cnt, by omega, by omega, fun _ => by omega, st09, J.bad, J.base, J.S₀, J.G₀⟩
      have e2 : (xs.take (i + 1)).drop (y * p) = (xs.take i).drop (y * p) ++ [v] := by
        rw [List.take_add_one, hv', Option.toList_some, List.drop_append_of_le_length (by simp; omega)]
      rw [e2]; exact l9
  case fin =>
    rintro m s₀ s6 s7 ⟨mm, cm, tm, y, J⟩ h7 c
    have F7 := J.run.stepX h7 (fun b e => e ▸ cI) (fun b e => e ▸ nIC)
    have full : (xs.take xs.toArray.size).drop (y * p) = xs.drop (y * p) := by simp
    have l7 : IsL s7 tm (xs.drop (y * p)) := by
      have := J.list.step h7 J.nI
      rwa [full] at this
    have st07 := J.step.trans (h7.mono fun b e => Or.inr e)
    have lo : y * p ≤ xs.length := by have := J.lo; simpa using this
    have hi2 : xs.length ≤ y * p + p := by have := J.hi; simpa using this
    have pos : 0 < xs.length → y * p < xs.length := by have := J.pos; simpa using this
    have cnt := J.cnt
    have ntC : s.heap.get? tm = none := J.base.notThere J.new
    have hlen : (xs.drop (y * p)).length = xs.length - y * p := by simp
    refine seg_back ?_
    refine seg_execs_cons (seg_if (isTrue_plain (g_ld F7 J.tmp (op_truthyL l7 (by omega) fun s8 h8 => ?_))))
    have F8 := F7.step0 h8
    have l8 := l7.step0 h8
    have st08 := st07.trans h8.up
    by_cases hx : xs.length = 0
    · have e0 : xs = [] := List.length_eq_zero_iff.mp hx
      have e : (!(xs.drop (y * p)).isEmpty) = false := by rw [e0]; simp
      rw [e]
      simp only [Bool.false_eq_true, if_false]
      refine seg_execs_nil (seg_execs_nil (seg_end (.ok (.ret .none)) ⟨rfl, ?_, F8.since, stays_of st08 J.S₀ J.G₀ (fun q => q.elim cS IS.symm) (fun q => q.elim cG IG.symm), fun ys hh => LsAt.step hh st08 fun b zs e _ => J.bad b zs e⟩))
      unfold batchN at cnt
      rw [if_pos hx] at cnt
      omega
    · have ylt := pos (by omega)
      have hy : y = (xs.length - 1) / p := by
        have a := div_ge (n := xs.length - 1) hp (show y * p ≤ xs.length - 1 by omega)
        have b := div_lt (n := xs.length - 1) hp (show xs.length - 1 < y * p + p by omega)
        omega
      have hm : m = 0 + 1 := by
        unfold batchN at cnt
        rw [if_neg hx] at cnt
        omega
      subst hm
      have e : (!(xs.drop (y * p)).isEmpty) = true := by
        cases q : xs.drop (y * p) with
        | nil => rw [q] at hlen; simp at hlen; omega
        | cons _ _ => rfl
      rw [e]
      simp only [if_true]
      have hch : chunk p xs y = xs.drop (y * p) := by unfold chunk; exact List.take_of_length_le (by omega)
      -- if fill_with is not None and len(tmp) < linecount: tmp += ..
      refine seg_st (wpAny_mono (Q := fun f s9 => f = .next ∧ ∃ mm9, Run (EV 23 303 w.params L) s mm9 cm s9 ∧ mm9 "tmp" = some (.ref tm) ∧ IsL s9 tm (padTo p fv (chunk p xs y)) ∧ Step (fun b => Hot (EV 23 303 w.params L) b ∨ b = I) s₀ s9)
        (wpAny_If (isTrue_and (wpAny_isTrue_Compare1 (g_ld F8 J.fw (wpAny_Constant_none ?test))))) (fun f s9 q => ?rest) fun _ _ q => q)
      case test =>
        rcases hfv with rfl | ⟨fx, ft, rfl⟩
        · refine isnot_none_none (wpAny_truthy_bool ?_)
          simp only [Bool.false_eq_true, if_false]
          exact wpAny_execs_nil ⟨rfl, mm, F8, J.tmp, by rw [hch]; unfold padTo; rw [if_pos rfl]; exact l8, st08⟩
        · refine isnot_str_none (wpAny_truthy_bool ?_)
          simp only [if_true]
          have hpad : padTo p (.str fx ft) (chunk p xs y) = xs.drop (y * p) ++ List.replicate (p - (xs.length - y * p)) (.str fx ft) := by
            unfold padTo; rw [if_neg (by intro q; cases q), hch, hlen]
          refine isTrue_and (wpAny_isTrue_Compare1 (Call_ (g_built F8 X (.builtin "len") (cw_builtin (spliced_more (g_ld F8 J.tmp (spliced_none (op_len (rm_func R).mono l8 (by omega) fun t9 s9 h9 => ?_))))))))
          have F9 := F8.step0 h9
          have l9 := l8.step0 h9
          have st09 := st08.trans h9.up
          refine g_ld F9 J.lc (PyProof.Rows.lt_int (wpAny_truthy_bool ?_))
          by_cases hlt : xs.length - y * p < p
          · have e3 : decide (((xs.drop (y * p)).length : Int) < (p : Int)) = true := by rw [hlen]; simpa using hlt
            rw [e3]
            simp only [if_true]
            refine isTrue_and_nil ?_
            simp only [if_true]
            refine wpAny_execs_cons (wpAny_AugAssign_Name (g_ldn F9 J.tmp (wpAny_BinOp (List_ (spliced_more (g_ld F9 J.fw (spliced_none (op_newList (by simp) (fun r1 s10 h10 hr1 nr1 _ => ?_) (size_ge (F9.K X)))))))))) 
            have F10 := F9.step0 h10
            refine wpAny_BinOp (g_ld F10 J.lc (Call_ (g_built F10 X (.builtin "len") (cw_builtin (spliced_more (g_ld F10 J.tmp (spliced_none (op_len (rm_func R).mono (l9.step0 h10) (by omega) fun t11 s11 h11 => PyProof.Rows.sub_int ?_))))))))
            have h11' := h11.trans (Step0.toks s11 (s11.toks + 1))
            have F11 := F10.step0 h11'
            refine op_mulL (hr1.step0 h11') (by omega) (by omega) (by simp) (fun r2 s12 h12 hr2 nr2 => ?_)
            have F12 := F11.step0 h12
            have l12 := ((l9.step0 h10).step0 h11').step0 h12
            have e4 : (List.replicate ((p : Int) - ((xs.drop (y * p)).length : Int)).toNat [Value.str fx ft]).flatten = List.replicate (p - (xs.length - y * p)) (.str fx ft) := by
              rw [hlen, show ((p : Int) - ((xs.length - y * p : Nat) : Int)).toNat = p - (xs.length - y * p) by omega]
              generalize p - (xs.length - y * p) = q
              induction q with
              | zero => rfl
              | succ q ih => rw [List.replicate_succ, List.flatten_cons, ih]; rfl
            rw [e4] at hr2
            refine op_iaddL l12 hr2 (by simp; omega) (fun s13 l13 h13 => ?_)
            have F13 := F12.stepX h13 (fun b e => e ▸ J.cold) (fun b e => e ▸ ntC)
            refine g_st F13 fun s14 F14 h14 => wpAny_execs_nil ⟨rfl, _, F14, putN, ?_, ?_⟩
            · rw [hpad]; exact l13.step h14 J.cold
            · have st013 : Step (fun b => Hot (EV 23 303 w.params L) b ∨ b = I) s₀ s13 := (Step.trans (X := fun b => (Hot (EV 23 303 w.params L) b ∨ b = I) ∨ b = tm) ((st09.trans ((h10.trans h11').trans h12).up).mono fun b e => .inl e) (h13.mono fun b e => Or.inr e)).new fun b hb nb => hb.elim (fun e => absurd e nb) fun e => e ▸ J.new
              exact st013.trans (h14.mono fun b e => .inl e)
          · have e3 : decide (((xs.drop (y * p)).length : Int) < (p : Int)) = false := by rw [hlen]; simpa using (by omega : p ≤ xs.length - y * p)
            rw [e3]
            simp only [Bool.false_eq_true, if_false]
            refine wpAny_execs_nil ⟨rfl, mm, F9, J.tmp, ?_, st09⟩
            rw [hpad, show p - (xs.length - y * p) = 0 by omega]
            simpa using l9
      case rest =>
        obtain ⟨rfl, mm9, F9, tmp9, l9, st09⟩ := q
        have stay := stays_of st09 J.S₀ J.G₀ (fun q => q.elim cS IS.symm) (fun q => q.elim cG IG.symm)
        refine seg_execs_cons (seg_Expr_Yield rfl rfl rfl (g_ld F9 tmp9 ?_))
        intro kap hk
        refine ⟨F9.since, st09.gens, stay, fun ys hy hh => LsAt.snoc (LsAt.step hh st09 fun b zs e _ => J.bad b zs e) (by rw [show ys.length = y by omega]; exact l9) J.nS, fun s10 k10 o10 S10 => hk .none s10 ?_⟩
        exact seg_execs_nil (seg_execs_nil (seg_end (.ok (.ret .none)) ⟨rfl, rfl, k10, fun _ _ _ e => e, fun _ h => h⟩))
end
end Mine
end
section
open PySem PySem.W PySem.W.X PyProof.Rows
namespace Mine
/-! sync_do_slice -/
def sliceLo (p n j : Nat) : Nat := min j (n % p) + j * (n / p)
def sliceAt (p : Nat) (xs : List Value) (j : Nat) : List Value := (xs.drop (sliceLo p xs.length j)).take (sliceLo p xs.length (j + 1) - sliceLo p xs.length j)
theorem fdiv_nat (n p : Nat) : (n : Int).fdiv (p : Int) = ((n / p : Nat) : Int) := by
  rw [Int.fdiv_eq_ediv_of_nonneg _ (by omega)]; rfl
theorem fmod_nat (n p : Nat) : (n : Int).fmod (p : Int) = ((n % p : Nat) : Int) := by
  rw [Int.fmod_eq_emod_of_nonneg _ (by omega)]; rfl
theorem sliceLo_le {p n j : Nat} (hp : 1 ≤ p) (hj : j ≤ p) : sliceLo p n j ≤ n := by
  unfold sliceLo
  have h1 : j * (n / p) ≤ p * (n / p) := Nat.mul_le_mul_right _ hj
  have h2 := Nat.div_add_mod n p
  have h3 : min j (n % p) ≤ n % p := Nat.min_le_right _ _
  omega
theorem sliceLo_succ {p n j : Nat} : sliceLo p n (j + 1) = sliceLo p n j + (n / p) + (if j < n % p then 1 else 0) := by
  unfold sliceLo
  rw [Nat.succ_mul]
  split <;> omega
theorem pick_mid {vs : List Value} {a b : Nat} (h : a ≤ b) (hb : b ≤ vs.length) : kms_pick vs (some (a : Int)) (some (b : Int)) = (vs.drop a).take (b - a) := by
  unfold kms_pick kms_lo kms_hi
  have h1 : ¬ ((a : Int) < 0) := by omega
  have h2 : ¬ ((b : Int) < 0) := by omega
  simp only [h1, h2, if_false, Int.toNat_natCast]
  rw [Nat.min_eq_left (show a ≤ vs.length by omega)]
  try rw [Nat.min_eq_left hb]
structure SJ (env : Env) (sC : Shared) (S G I : Addr) (g p : Nat) (xs : List Value) (i m : Nat) (s₀ s : Shared) (mm cm : Str → Option Value) (sq : Addr) : Prop where
  run : Run env sC mm cm s
  seq : mm "seq" = some (.ref sq)
  ips : ∃ t, mm "items_per_slice" = some (.int ((xs.length / p : Nat)) t)
  swe : ∃ t, mm "slices_with_extra" = some (.int ((xs.length % p : Nat)) t)
  off : ∃ t, mm "offset" = some (.int ((min i (xs.length % p) : Nat)) t)
  fw : mm "fill_with" = some .none
  list : IsL s sq xs
  cold : ¬ Hot env sq
  nI : sq ≠ I
  nS : sq ≠ S
  newC : sC.heap.get? sq = none
  cnt : i + m = p
  step : Step (fun b => Hot env b ∨ b = I) s₀ s
  bad : ∀ b xs, (Hot env b ∨ b = I) → ¬ IsL s₀ b xs
  base : Step0 sC s₀
  S₀ : ∃ xs, IsL s₀ S xs
  G₀ : s₀.heap.IsGen G g
theorem rangeIter_notList {s : Shared} {I : Addr} {x l k : Int} (h : IsRangeIter s.heap I x l k) {xs : List Value} : ¬ IsL s I xs := by
  rintro ⟨n, e⟩
  rw [show s.heap.get? I = some _ from h] at e
  have := congrArg (Option.map Obj.cls) e
  simp [lst] at this
section
variable {prog : Program} {w : World} {A : Around} {s : Shared}
theorem c_slice {l : Addr} {xs : List Value} {p : Nat} {t : Tok} {Q : Value → Shared → Prop} (R : Rm A 640 940) (X : (KP w.params).In s.heap) (hl : IsL s l xs) (hz : xs.length ≤ 100) (hp : 1 ≤ p) (hp2 : p ≤ 100)
    (h : ∀ G s', Step0 s s' → GenGives prog w s s' G (fun S ys s'' => ys.length = p ∧ LsAt S (sliceAt p xs) ys s''.heap) → Q (.ref G) s') :
    wpAny (model prog w) A (call (.ref 295) [.ref l, .int p t]) Q NoE s := by
  refine call_gen 22 295 (args := ⟨[.ref l, .int p t], []⟩) (binds := [("value", .ref l), ("slices", .int p t), ("fill_with", .none)]) X (Nat.lt_of_le_of_lt R.depth (by decide)) (by kernel_rfl) (fun L => List.forall_mem_cons.mpr ⟨.inl (by kernel_rfl), List.forall_mem_cons.mpr ⟨.inl (by kernel_rfl), List.forall_mem_cons.mpr ⟨.inl (by kernel_rfl), List.forall_mem_nil _⟩⟩⟩) (fun L hL G g s1 F1 hG hg hgC nG cG => h G s1 F1.since ?_)
  intro A' Q' R' k
  refine c_list_gen (sC := s) (g := g) (N := p) (H := fun S => LsAt S (sliceAt p xs)) R' X hgC (by omega) F1.since hG (fun S ys s s' a b => LsAt.out a b) (fun S h => LsAt.nil _ _ _) (fun S nS SG => ⟨_, hg, fun A R s2 st2 hS2 out => ⟨rfl, ?_⟩⟩) (fun S ys s' hls hn st hh nSC => k S ys s' st hls ⟨hn, hh⟩ nSC)
  have cS : ¬ Hot (EV 22 295 w.params L) S := F1.hotAt nS
  have nSC : s.heap.get? S = none := F1.newAt nS
  have F2 : Run (EV 22 295 w.params L) s _ _ s2 := (F1.setGen (x := .running) hgC rfl).stepX out (fun b e => e ▸ cS) (fun b e => e ▸ nSC)
  have G2 : s2.heap.IsGen G g := IsGen.stepX (X := At S) (s := s1.setGen g .running) hG out (show ¬ G = S from SG.symm)
  obtain ⟨ol, hol⟩ := hl.some
  have RF := fun env => (rm_func (body := fnBody 22) (env := env) R)
  refine seg_func ?_
  -- seq = list(value)
  refine seg_st (wpAny_Assign_Name (Call_ (g_built F2 X (.type "list") (cw_type (spliced_more (g_ld F2 (v := .ref l) (by kernel_rfl) (spliced_none (op_listL (hl.step0 F2.since) (by omega) fun sq s3 h3 hsq nsq => ?_))))))))
  have F3 := F2.step0 h3
  refine g_st F3 fun s4 F4 h4 => ?_
  have csq := F2.hotAt nsq
  have hsq4 := hsq.step h4 csq
  -- length = len(seq)
  refine seg_st (wpAny_Assign_Name (Call_ (g_built F4 X (.builtin "len") (cw_builtin (spliced_more (g_ld F4 (v := .ref sq) (by kernel_rfl) (spliced_none (op_len (RF _).mono hsq4 (by omega) fun t5 s5 h5 => ?_))))))))
  have F5 := F4.step0 h5
  refine g_st F5 fun s6 F6 h6 => ?_
  -- items_per_slice, slices_with_extra, offset
  refine seg_st (wpAny_Assign_Name (wpAny_BinOp (g_ld F6 (v := .int xs.length t5) (by kernel_rfl) (g_ld F6 (v := .int p t) (by kernel_rfl) (op_divi (by omega) (PyProof.noPylong_small (by omega)) fun t7 s7 h7 => ?_)))))
  rw [fdiv_nat]
  have F7 := F6.step0 h7
  refine g_st F7 fun s8 F8 h8 => ?_
  refine seg_st (wpAny_Assign_Name (wpAny_BinOp (g_ld F8 (v := .int xs.length t5) (by kernel_rfl) (g_ld F8 (v := .int p t) (by kernel_rfl) (op_modi (by omega) fun t9 s9 h9 => ?_)))))
  rw [fmod_nat]
  have F9 := F8.step0 h9
  refine g_st F9 fun s10 F10 h10 => ?_
  refine seg_st (wpAny_Assign_Name (g_int fun t11 s11 h11 => ?_))
  have F11 := F10.step0 h11
  refine g_st F11 fun s12 F12 h12 => ?_
  have H2_12 : Step (Hot (EV 22 295 w.params L)) s2 s12 := ((((((((h3.up.trans h4).trans h5.up).trans h6).trans h7.up).trans h8).trans h9.up).trans h10).trans h11.up).trans h12
  have hsq12 : IsL s12 sq xs := ((((((((hsq4.step0 h5).step h6 csq).step0 h7).step h8 csq).step0 h9).step h10 csq).step0 h11)).step h12 csq
  -- for slice_number in range(slices)
  refine seg_execs_cons (seg_for (Call_ (g_built F12 X (.type "range") (cw_type (spliced_more (g_ld F12 (v := .int p t) (by kernel_rfl) (spliced_none (op_range (by omega) (size_ge (F12.K X)) fun r s13 h13 kr => kr _ _ fun I s14 h14 hit nI hI4 pp => ?_))))))))
  have F13 := F12.step0 h13
  have F14 := F13.step0 h14
  have cI : ¬ Hot (EV 22 295 w.params L) I := F13.hotAt nI
  have nI12 : s12.heap.get? I = none := h13.notThere nI
  have nI2 : s2.heap.get? I = none := by
    cases e : s2.heap.get? I with
    | none => rfl
    | some o =>
      obtain ⟨o', e'⟩ := H2_12.there I o e cI
      rw [nI12] at e'; cases e'
  have nIC : s.heap.get? I = none := F12.newAt nI12
  have S12 : IsL s12 S [] := hS2.step H2_12 cS
  have IS : I ≠ S := (ne_new S12.some nI12).symm
  have G12 : s12.heap.IsGen G g := IsGen.stepX G2 H2_12 cG
  have IG : I ≠ G := (ne_new (let ⟨o, _, _, q, _⟩ := G12; ⟨o, q⟩) nI12).symm
  have sqI : sq ≠ I := ne_new hsq12.some nI12
  refine seg_for_loop (Src.of (itr_range (a := 0) (n := p) (rm_for R).handled hI4) (fun b e => by rw [List.mem_singleton.mp e]; exact cI) (fun i => bnd_name (fun v s hv => hv) (by kernel_rfl) (by kernel_rfl))) (fun i m s₀ s' => ∃ mm cm, SJ (EV 22 295 w.params L) s S G I g p xs i m s₀ s' mm cm sq) ?turn ?fin _ 0 p s2 s14 (Nat.sub_zero _) (Nat.zero_le _) (by simpa using hit)
    ⟨_, _, F14, by kernel_rfl, ⟨t7, by kernel_rfl⟩, ⟨t9, by kernel_rfl⟩, ⟨t11, by rw [Nat.zero_min]; kernel_rfl⟩, by kernel_rfl, (hsq12.step0 h13).step0 h14, csq, sqI, (ne_new hS2.some nsq).symm, F2.newAt nsq, by simp, ((H2_12.mono fun b e => Or.inl e).trans h13.up).trans h14.up, ?bad, st2, ⟨_, hS2⟩, G2⟩
  case bad =>
    rintro b zs (hh | rfl) hb
    · exact F2.act.notList hh hb
    · obtain ⟨n, e⟩ := hb
      rw [nI2] at e; cases e
  case turn =>
    rintro i m s₀ s15 hi st15 ⟨mm, cm, J⟩
    refine ⟨mm, cm, J.run.act, ?_⟩
    rintro m' s16 ⟨v, ⟨tv, rfl⟩, rfl⟩ F16' h16 st16 ih
    have F16 : Run (EV 22 295 w.params L) s _ cm s16 := ⟨F16', (Step.trans J.run.since.up h16).new (fun b hb _ => hb.elim (fun e => J.run.new b (.inl e)) fun e => by rw [List.mem_singleton.mp e]; exact nIC), J.run.new⟩
    have l16 := J.list.step h16 (fun q => q.elim (fun e => J.cold (.inl e)) fun e => J.nI (List.mem_singleton.mp e))
    have st016 : Step (fun b => Hot (EV 22 295 w.params L) b ∨ b = I) s₀ s16 := J.step.trans (h16.mono fun b e => e.imp .inl fun e => List.mem_singleton.mp e)
    have hi' : i < p := hi
    obtain ⟨t1, off⟩ := J.off
    obtain ⟨t2, ips⟩ := J.ips
    obtain ⟨t3, swe⟩ := J.swe
    have sq0 := J.seq
    have fw0 := J.fw
    have cnt := J.cnt
    have ei : (0 : Int) + (i : Nat) * 1 = (i : Nat) := by omega
    rw [ei] at F16
    clear F16'
    have e1 : ((min i (xs.length % p) : Nat) : Int) + (i : Nat) * ((xs.length / p : Nat) : Int) = ((sliceLo p xs.length i : Nat) : Int) := by unfold sliceLo; push_cast; rfl
    have e2 : ((min (i + 1) (xs.length % p) : Nat) : Int) + ((i : Nat) + 1) * ((xs.length / p : Nat) : Int) = ((sliceLo p xs.length (i + 1) : Nat) : Int) := by unfold sliceLo; push_cast; rfl
    have le1 : sliceLo p xs.length i ≤ sliceLo p xs.length (i + 1) := by rw [sliceLo_succ, Nat.add_assoc]; exact Nat.le_add_right _ _
    have le2 : sliceLo p xs.length (i + 1) ≤ xs.length := sliceLo_le hp (by omega)
    -- start
    refine seg_st (wpAny_Assign_Name (wpAny_BinOp (g_ld F16 (v := .int ((min i (xs.length % p) : Nat)) t1) (keepN off) (wpAny_BinOp (g_ld F16 (v := .int i tv) putN (g_ld F16 (v := .int ((xs.length / p : Nat)) t2) (keepN ips) (op_muli (a := ((i : Nat) : Int)) ⟨by omega, by omega⟩ fun t17 s17 h17 => op_addi fun t18 s18 h18 => ?_)))))))
    rw [e1]
    have h1618 := h17.trans h18
    have F18 := F16.step0 h1618
    refine g_st F18 fun s19 F19 h19 => ?_
    -- if slice_number < slices_with_extra: offset += 1
    have sn19 : (fun z : Str => if z = "start" then some (Value.int (sliceLo p xs.length i : Nat) t18) else if z = "slice_number" then some (Value.int i tv) else mm z) "slice_number" = some (.int i tv) := by kernel_rfl
    have swe19 : (fun z : Str => if z = "start" then some (Value.int (sliceLo p xs.length i : Nat) t18) else if z = "slice_number" then some (Value.int i tv) else mm z) "slices_with_extra" = some (.int ((xs.length % p : Nat)) t3) := swe
    have off19 : (fun z : Str => if z = "start" then some (Value.int (sliceLo p xs.length i : Nat) t18) else if z = "slice_number" then some (Value.int i tv) else mm z) "offset" = some (.int ((min i (xs.length % p) : Nat)) t1) := off
    have ips19 : (fun z : Str => if z = "start" then some (Value.int (sliceLo p xs.length i : Nat) t18) else if z = "slice_number" then some (Value.int i tv) else mm z) "items_per_slice" = some (.int ((xs.length / p : Nat)) t2) := ips
    have seq19 : (fun z : Str => if z = "start" then some (Value.int (sliceLo p xs.length i : Nat) t18) else if z = "slice_number" then some (Value.int i tv) else mm z) "seq" = some (.ref sq) := sq0
    have fw19 : (fun z : Str => if z = "start" then some (Value.int (sliceLo p xs.length i : Nat) t18) else if z = "slice_number" then some (Value.int i tv) else mm z) "fill_with" = some .none := fw0
    have st19_ : (fun z : Str => if z = "start" then some (Value.int (sliceLo p xs.length i : Nat) t18) else if z = "slice_number" then some (Value.int i tv) else mm z) "start" = some (.int (sliceLo p xs.length i : Nat) t18) := by kernel_rfl
    generalize (fun z : Str => if z = "start" then some (Value.int (sliceLo p xs.length i : Nat) t18) else if z = "slice_number" then some (Value.int i tv) else mm z) = mm19 at F19 sn19 swe19 off19 ips19 seq19 fw19 st19_
    refine seg_st (wpAny_mono (Q := fun f s20 => f = .next ∧ ∃ mm20 t20, Run (EV 22 295 w.params L) s mm20 cm s20 ∧ mm20 "offset" = some (.int ((min (i + 1) (xs.length % p) : Nat)) t20) ∧ (∀ y : Str, y ≠ "offset" → mm20 y = mm19 y) ∧ Step (Hot (EV 22 295 w.params L)) s19 s20)
      (wpAny_If (wpAny_isTrue_Compare1 (g_ld F19 sn19 (g_ld F19 swe19 (PyProof.Rows.lt_int (wpAny_truthy_bool ?off)))))) (fun f s20 q => ?rest) fun _ _ q => q)
    case off =>
      by_cases hlt : i < xs.length % p
      · have e : decide (((i : Nat) : Int) < ((xs.length % p : Nat) : Int)) = true := decide_eq_true (Int.ofNat_lt.mpr hlt)
        rw [e]
        simp only [if_true]
        refine wpAny_execs_cons (wpAny_AugAssign_Name (g_ldn F19 off19 (g_int fun t20 s20 h20 => g_addi fun t21 s21 h21 => ?_)))
        refine g_st ((F19.step0 h20).step0 h21) fun s22 F22 h22 => wpAny_execs_nil ⟨rfl, _, t21, F22, ?_, fun y hy => if_neg hy, (h20.trans h21).up.trans h22⟩
        rw [if_pos rfl]
        have : ((min i (xs.length % p) : Nat) : Int) + 1 = ((min (i + 1) (xs.length % p) : Nat) : Int) := by omega
        rw [this]
      · have e : decide (((i : Nat) : Int) < ((xs.length % p : Nat) : Int)) = false := decide_eq_false fun q => hlt (Int.ofNat_lt.mp q)
        rw [e]
        simp only [Bool.false_eq_true, if_false]
        refine wpAny_execs_nil ⟨rfl, _, t1, F19, ?_, fun _ _ => rfl, Step.refl _ _⟩
        rw [off19, show min i (xs.length % p) = min (i + 1) (xs.length % p) by omega]
    case rest =>
      obtain ⟨rfl, mm20, t20, F20, off20, keep, h20⟩ := q
      have sn20 := (keep "slice_number" (by decide)).trans sn19
      have ips20 := (keep "items_per_slice" (by decide)).trans ips19
      have seq20 := (keep "seq" (by decide)).trans seq19
      have fw20 := (keep "fill_with" (by decide)).trans fw19
      have st20 := (keep "start" (by decide)).trans st19_
      have swe20 := (keep "slices_with_extra" (by decide)).trans swe19
      -- end
      refine seg_st (wpAny_Assign_Name (wpAny_BinOp (g_ld F20 off20 (wpAny_BinOp (wpAny_BinOp (g_ld F20 sn20 (g_int fun t21 s21 h21 => op_addi fun t22 s22 h22 => ?_)))))))
      have F22 := (F20.step0 h21).step0 h22
      refine g_ld F22 ips20 (op_muli (a := ((i : Nat) : Int) + 1) ⟨by omega, by omega⟩ fun t23 s23 h23 => op_addi fun t24 s24 h24 => ?_)
      rw [e2]
      have F24 := (F22.step0 h23).step0 h24
      have h2024 := ((h21.trans h22).trans h23).trans h24
      refine g_st F24 fun s25 F25 h25 => ?_
      have l25 : IsL s25 sq xs := ((((l16.step0 h1618).step h19 J.cold).step h20 J.cold).step0 h2024).step h25 J.cold
      have st025 : Step (fun b => Hot (EV 22 295 w.params L) b ∨ b = I) s₀ s25 := st016.trans ((((h1618.up.trans h19).trans h20).trans (h2024.up.trans h25)).mono fun b e => Or.inl e)
      -- tmp = seq[start:end]
      refine seg_st (wpAny_Assign_Name (sub_slice (g_ld F25 (keepN seq20) (g_ld F25 (keepN st20) (g_ld F25 putN ⟨sq, xs, some _, some _, rfl, l25, by omega, .int _ _, .int _ _, fun r s26 h26 hr nr => ?_⟩)))))
      rw [pick_mid le1 le2] at hr
      have F26 := F25.step0 h26
      refine g_st F26 fun s27 F27 h27 => ?_
      have cr := F25.hotAt nr
      have hr27 := hr.step h27 cr
      -- if fill_with is not None and ..
      refine seg_st (wpAny_If (isTrue_and (wpAny_isTrue_Compare1 (g_ld F27 (v := .none) (keepN (x := "tmp") (y := "fill_with") (m := fun z : Str => if z = "end" then some (Value.int (sliceLo p xs.length (i + 1) : Nat) t24) else mm20 z) (a := some .none) (keepN fw20)) (wpAny_Constant_none (isnot_none_none (wpAny_truthy_bool ?_)))))))
      simp only [Bool.false_eq_true, if_false]
      refine wpAny_execs_nil ?_
      have st027 := st025.trans ((h26.up.trans h27).mono fun b e => Or.inl e)
      have stay := stays_of st027 J.S₀ J.G₀ (fun q => q.elim cS IS.symm) (fun q => q.elim cG IG.symm)
      obtain ⟨m1, rfl⟩ : ∃ m1, m = m1 + 1 := ⟨m - 1, by omega⟩
      -- yield tmp
      refine seg_execs_cons (seg_Expr_Yield rfl rfl rfl (g_ld F27 putN ?_))
      intro kap hk
      have nrS : r ≠ S := (ne_new (s := s25) (let ⟨xs, h⟩ := J.S₀; (let ⟨n, e⟩ := h; ⟨_, st025.keep _ _ e rfl (fun q => q.elim cS IS.symm)⟩)) nr).symm
      refine ⟨F27.since, st027.gens, stay, fun ys hy hh => LsAt.snoc (LsAt.step hh st027 fun b zs e _ => J.bad b zs e) (by rw [show ys.length = i by omega]; exact hr27) nrS, fun s28 k28 o28 S28 => hk .none s28 ?_⟩
      have F28 : Run (EV 22 295 w.params L) s _ cm s28 := F27.stepX o28 (fun b e => e ▸ cS) (fun b e => e ▸ nSC)
      have G28 : s28.heap.IsGen G g := IsGen.stepX (stay.gen J.G₀) o28 (show ¬ G = S from SG.symm)
      have it16 : IsRangeIter s16.heap I (0 + ((i + 1 : Nat) : Int) * 1) ((p : Int) - ((i + 1 : Nat) : Int)) 1 := st16
      have it28 : IsRangeIter s28.heap I (0 + ((i + 1 : Nat) : Int) * 1) ((p : Int) - ((i + 1 : Nat) : Int)) 1 := by
        have a := Step0.at h1618 it16 rfl
        have b := h19.keep _ _ a rfl cI
        have c := h20.keep _ _ b rfl cI
        have d := Step0.at h2024 c rfl
        have e := h25.keep _ _ d rfl cI
        have f := Step0.at h26 e rfl
        have g := h27.keep _ _ f rfl cI
        exact o28.keep _ _ g rfl (show ¬ I = S from IS)
      have l28 : IsL s28 sq xs := ((l25.step0 h26).step h27 J.cold).step o28 (show ¬ sq = S from J.nS)
      refine seg_execs_nil (ih m1 s28 s28 it28 ⟨_, cm, F28, seq20, ⟨t2, ips20⟩, ⟨t3, swe20⟩, ⟨t20, off20⟩, fw20, l28, J.cold, J.nI, J.nS, J.newC, by omega, Step.refl _ _, ?_, k28, S28, G28⟩)
      rintro b zs (hh | rfl) hb
      · exact F28.act.notList hh hb
      · exact rangeIter_notList it28 hb
  case fin =>
    rintro m s₀ s15 s16 ⟨mm, cm, J⟩ h16 c
    have F16 := J.run.stepX h16 (fun b e => by rw [List.mem_singleton.mp e]; exact cI) (fun b e => by rw [List.mem_singleton.mp e]; exact nIC)
    have st016 : Step (fun b => Hot (EV 22 295 w.params L) b ∨ b = I) s₀ s16 := J.step.trans (h16.mono fun b e => Or.inr (List.mem_singleton.mp e))
    have cnt := J.cnt
    exact seg_back (seg_execs_nil (seg_end (.ok (.ret .none)) ⟨rfl, by omega, F16.since, stays_of st016 J.S₀ J.G₀ (fun q => q.elim cS IS.symm) (fun q => q.elim cG IG.symm), fun ys hh => LsAt.step hh st016 fun b zs e _ => J.bad b zs e⟩))
end
end Mine
end
section
open PySem PySem.W PySem.W.X PyProof.Rows
namespace Mine
/-! calls with keywords -/
section
variable {M : Model} {A : Around} {E : Value → Shared → Prop} {s : Shared} {env : Env} {pos : Pos} {Q : Value → Shared → Prop}
theorem CallK_ {func : Expr} {args : List Expr} {kws : List Keyword} {Q : Value → Shared → Prop}
    (h : wpAny M A (eval func env) (fun f s₁ => wpAny M A (callWith pos f [] (backTo pos (starEach args env)) (backToKw pos (keywordEach kws env))) Q E s₁) E s)
    (he : eval (.Call func args kws pos) env = (do callWith pos (← eval func env) [] (backTo pos (starEach args env)) (backToKw pos (keywordEach kws env))) := by rfl) :
    wpAny M A (eval (.Call func args kws pos) env) Q E s := by
  rw [he]; exact wpAny_bind h
/-- the keywords' values -/
def kwVals (pos : Pos) (kws : List Keyword) (env : Env) : Sem (List Value) := evalAll ((backToKw pos (keywordEach kws env)).map (·.2))
theorem kw_nil {Q : List Value → Shared → Prop} (h : Q [] s) : wpAny M A (kwVals pos [] env) Q E s := evalAll_nil h
theorem kw_cons {n : Option Str} {e : Expr} {kp : Pos} {rest : List Keyword} {Q : List Value → Shared → Prop} (h : wpAny M A (eval e env) (fun v s₁ => wpAny M A (kwVals pos rest env) (fun vs s₂ => Q (v :: vs) s₂) E s₁) E s) : wpAny M A (kwVals pos (⟨n, e, kp⟩ :: rest) env) Q E s := by
  unfold kwVals
  refine evalAll_cons ?_
  exact wpAny_bind (wpAny_mono h (fun v s₁ h₁ => wpAny_bind (wpAny_standAt (wpAny_pure h₁))) fun _ _ q => q)
theorem cw_type0 {id : String} {first : List Value} (h : wpAny M A (call (.type id) (first ++ [])) Q E s) : wpAny M A (callWith pos (.type id) first (backTo pos (starEach [] env)) []) Q E s :=
  callWith_of (P := fun _ => True) rfl (fun _ _ => ⟨.machine, .inr (.inl rfl), Looks.of_pure rfl⟩) (evalArgs_nil3 ⟨trivial, h⟩)
theorem cw_fnK {a : Addr} {first : List Value} {e : Expr} {rest : List Expr} {kws : List Keyword} (names : List Str) (h : wpAny M A (spliced (backTo pos (starEach (e :: rest) env))) (fun vs s₁ => wpAny M A (kwVals pos kws env) (fun ks s₂ => IsFn s₂ a ∧ wpAny M A (call (.ref a) (first ++ vs) (names.zip ks)) Q E s₂) E s₁) E s)
    (hn : (backToKw pos (keywordEach kws env)).filterMap (·.1) = names := by rfl) (hall : (backToKw pos (keywordEach kws env)).all (·.1.isSome) = true := by rfl) (hkw : (backToKw pos (keywordEach kws env)).any (·.1.isNone) = false := by rfl)
    (he : starEach (e :: rest) env = (false, eval e env) :: starEach rest env := by rfl) (hplain : (backTo pos (starEach rest env)).any (·.1) = false := by rfl) :
    wpAny M A (callWith pos (.ref a) first (backTo pos (starEach (e :: rest) env)) (backToKw pos (keywordEach kws env))) Q E s := by
  subst hn
  rw [he] at h ⊢
  refine callWith_of (P := fun h => ∃ o fd, h.get? a = some o ∧ o.data = .func fd) (by show ((false || (backTo pos (starEach rest env)).any (·.1)) || (backToKw pos (keywordEach kws env)).any (·.1.isNone)) = false; rw [hplain, hkw]; rfl) (fun h hp => ?_) (evalArgs_kw hall ?_)
  · obtain ⟨o, fd, e, d⟩ := hp
    refine ⟨.frame, .inl rfl, (Looks.ld (part := none) e).andThen ?_⟩
    rw [d]; exact .now
  · exact h
theorem cw_builtinK {id : String} {first : List Value} {e : Expr} {rest : List Expr} {kws : List Keyword} (names : List Str) (h : wpAny M A (spliced (backTo pos (starEach (e :: rest) env))) (fun vs s₁ => wpAny M A (kwVals pos kws env) (fun ks s₂ => wpAny M A (call (.builtin id) (first ++ vs) (names.zip ks)) Q E s₂) E s₁) E s)
    (hn : (backToKw pos (keywordEach kws env)).filterMap (·.1) = names := by rfl) (hall : (backToKw pos (keywordEach kws env)).all (·.1.isSome) = true := by rfl) (hkw : (backToKw pos (keywordEach kws env)).any (·.1.isNone) = false := by rfl)
    (he : starEach (e :: rest) env = (false, eval e env) :: starEach rest env := by rfl) (hplain : (backTo pos (starEach rest env)).any (·.1) = false := by rfl) :
    wpAny M A (callWith pos (.builtin id) first (backTo pos (starEach (e :: rest) env)) (backToKw pos (keywordEach kws env))) Q E s := by
  subst hn
  rw [he] at h ⊢
  refine callWith_of (P := fun _ => True) (by show ((false || (backTo pos (starEach rest env)).any (·.1)) || (backToKw pos (keywordEach kws env)).any (·.1.isNone)) = false; rw [hplain, hkw]; rfl) (fun _ _ => ⟨.machine, .inr (.inl rfl), Looks.of_pure rfl⟩) (evalArgs_kw hall ?_)
  exact wpAny_mono h (fun vs s₁ q => wpAny_mono q (fun ks s₂ q => ⟨trivial, q⟩) fun _ _ q => q) fun _ _ q => q
end

/-! sets of keys, all ints or all texts -/
def Key.int : Key → Bool
  | .i _ => true
  | .s _ => false
def IsSetK (prog : Program) (w : World) (b : Bool) (s : Shared) (a : Addr) (S : Key → Bool) (n : Nat) : Prop :=
  if b then ∃ S' : Int → Bool, s.heap.SetOf (intKind prog w) a S' n ∧ ∀ i, S' i = S (.i i) else ∃ S' : Str → Bool, s.heap.SetOf (strKind prog w) a S' n ∧ ∀ x : Str, S' x = S (.s x.cps.toList)
theorem setOf_step {prog : Program} {w : World} {K : Type} [DecidableEq K] {knd : KeyKind prog w K} {X : Addr → Prop} {s s' : Shared} {a : Addr} {S : K → Bool} {n : Nat} (h : s.heap.SetOf knd a S n) (st : Step X s s') (nx : ¬ X a) : s'.heap.SetOf knd a S n :=
  let ⟨o, es, ep, t, e, x, d, r⟩ := h; ⟨o, es, ep, t, st.keep _ _ e (by unfold isTab; rw [d]; split <;> first | rfl | (rename_i q; cases q)) nx, x, d, r⟩
theorem IsSetK.step {prog : Program} {w : World} {b : Bool} {X : Addr → Prop} {s s' : Shared} {a : Addr} {S : Key → Bool} {n : Nat} (h : IsSetK prog w b s a S n) (st : Step X s s') (nx : ¬ X a) : IsSetK prog w b s' a S n := by
  cases b
  · obtain ⟨S', q, e⟩ := h
    exact ⟨S', setOf_step q st nx, e⟩
  · obtain ⟨S', q, e⟩ := h
    exact ⟨S', setOf_step q st nx, e⟩
theorem IsSetK.notList {prog : Program} {w : World} {b : Bool} {s : Shared} {a : Addr} {S : Key → Bool} {n : Nat} (h : IsSetK prog w b s a S n) {xs : List Value} : ¬ IsL s a xs := by
  rintro ⟨m, e⟩
  cases b
  · obtain ⟨S', ⟨o, es, ep, t, e2, x, d, r⟩, _⟩ := h
    rw [e] at e2; cases e2; cases d
  · obtain ⟨S', ⟨o, es, ep, t, e2, x, d, r⟩, _⟩ := h
    rw [e] at e2; cases e2; cases d
theorem IsSetK.some {prog : Program} {w : World} {b : Bool} {s : Shared} {a : Addr} {S : Key → Bool} {n : Nat} (h : IsSetK prog w b s a S n) : ∃ o, s.heap.get? a = some o := by
  cases b
  · obtain ⟨S', ⟨o, es, ep, t, e2, _⟩, _⟩ := h; exact ⟨o, e2⟩
  · obtain ⟨S', ⟨o, es, ep, t, e2, _⟩, _⟩ := h; exact ⟨o, e2⟩
section
variable {prog : Program} {w : World} {A : Around} {s : Shared} {Q : Value → Shared → Prop}
theorem op_set0 (b : Bool) (k : ∀ r s', Step0 s s' → IsSetK prog w b s' r (fun _ => false) 0 → s.heap.get? r = none → Q (.ref r) s') : wpAny (model prog w) A (call (.type "set") []) Q NoE s := by
  refine call_set_0 fun led => k _ _ (Step0.push s _) ?_ (Heap.get?_none_of_le (Nat.le_refl _))
  cases b
  · exact ⟨_, Obj.SetObjOf.setOf (setObjOf_fresh (knd := strKind prog w) led) (Heap.get?_push_size _ rfl) (by decide), fun _ => rfl⟩
  · exact ⟨_, Obj.SetObjOf.setOf (setObjOf_fresh (knd := intKind prog w) led) (Heap.get?_push_size _ rfl) (by decide), fun _ => rfl⟩
theorem op_notin {b : Bool} {a : Addr} {S : Key → Bool} {n : Nat} {v : Value} {k : Key} (hS : IsSetK prog w b s a S n) (hv : IsKey v k) (hb : k.int = b) (h : ∀ s', Step0 s s' → Q (.bool (!S k)) s') : wpAny (model prog w) A (compareOp .NotIn v (.ref a)) Q NoE s := by
  cases k with
  | i i =>
    obtain rfl : b = true := hb.symm
    obtain ⟨t, rfl⟩ := hv
    obtain ⟨S', q, e⟩ := hS
    refine wpAny_notInSet_of (knd := intKind prog w) (intKind_is prog w i t) rfl q ?_
    rw [e]; exact h _ (Step0.toks _ _)
  | s c =>
    obtain rfl : b = false := hb.symm
    obtain ⟨x, t, rfl, rfl⟩ := hv
    obtain ⟨S', q, e⟩ := hS
    refine wpAny_notInSet_of (knd := strKind prog w) (strKind_is prog w x t) rfl q ?_
    rw [e]; exact h _ (Step0.toks _ _)
theorem meth_add {b : Bool} {a : Addr} {S : Key → Bool} {n : Nat} {pl : Sem Bool} {Q : Value × List Value → Shared → Prop} (hS : IsSetK prog w b s a S n) (h : Q (.builtin "set.add", [.ref a]) s) : wpAny (model prog w) A (getMethod (.ref a) "add" pl) Q NoE s := by
  cases b
  · obtain ⟨S', q, e⟩ := hS; exact getMethod_set_add q h
  · obtain ⟨S', q, e⟩ := hS; exact getMethod_set_add q h
theorem op_setadd {b : Bool} {a : Addr} {S : Key → Bool} {n : Nat} {v : Value} {k : Key} (hS : IsSetK prog w b s a S n) (hn : n ≤ 100) (hv : IsKey v k) (hb : k.int = b) (h : ∀ s', Step (fun x => x = a) s s' → IsSetK prog w b s' a (fun k' => S k' || decide (k' = k)) (if S k then n else n + 1) → Q .none s') :
    wpAny (model prog w) A (call (.builtin "set.add") [.ref a, v]) Q NoE s := by
  have plain : ∀ o, s.heap.get? a = some o → codeish o = false := by
    cases b
    · obtain ⟨S', ⟨o, es, ep, t, e2, x, d, r⟩, _⟩ := hS
      intro o' e; rw [e2] at e; cases e; unfold codeish; rw [d]
    · obtain ⟨S', ⟨o, es, ep, t, e2, x, d, r⟩, _⟩ := hS
      intro o' e; rw [e2] at e; cases e; unfold codeish; rw [d]
  cases k with
  | i i =>
    obtain rfl : b = true := hb.symm
    obtain ⟨t, rfl⟩ := hv
    obtain ⟨S', q, e⟩ := hS
    refine call_set_add (knd := intKind prog w) (intKind_is prog w i t) rfl q (Nat.lt_of_le_of_lt (Nat.succ_le_succ hn) (by decide)) fun h' sb q' => h _ (Step.of_same rfl sb plain) ?_
    rw [e] at q'
    exact ⟨_, q', fun j => by dsimp only; rw [e]; congr 1; rw [Bool.eq_iff_iff]; simp⟩
  | s c =>
    obtain rfl : b = false := hb.symm
    obtain ⟨x, t, rfl, rfl⟩ := hv
    obtain ⟨S', q, e⟩ := hS
    refine call_set_add (knd := strKind prog w) (strKind_is prog w x t) rfl q (Nat.lt_of_le_of_lt (Nat.succ_le_succ hn) (by decide)) fun h' sb q' => h _ (Step.of_same rfl sb plain) ?_
    rw [e] at q'
    refine ⟨_, q', fun y => ?_⟩
    dsimp only; rw [e]; congr 1
    rw [Bool.eq_iff_iff]
    simp only [decide_eq_true_eq, Key.s.injEq]
    refine ⟨fun h => by rw [h], fun h => ?_⟩
    obtain ⟨⟨u⟩⟩ := y
    obtain ⟨⟨v⟩⟩ := x
    simp at h
    rw [h]
end
end Mine
end
section
open PySem PySem.W PySem.W.X PyProof.Rows
namespace Mine
/-! sync_do_unique -/
def uniqStep (κ : Value → Key) (out : List Value) (v : Value) : List Value := if out.any (fun u => decide (κ u = κ v)) then out else out ++ [v]
def uniqOn (κ : Value → Key) (vs : List Value) : List Value := vs.foldl (uniqStep κ) []
theorem uniqOn_snoc (κ vs v) : uniqOn κ (vs ++ [v]) = uniqStep κ (uniqOn κ vs) v := by unfold uniqOn; simp
theorem uniqFold_prefix {κ : Value → Key} : ∀ (vs out : List Value), out <+: vs.foldl (uniqStep κ) out
  | [], out => List.prefix_refl _
  | v :: r, out => by
    rw [List.foldl_cons]
    refine List.IsPrefix.trans ?_ (uniqFold_prefix r _)
    unfold uniqStep
    split
    · exact List.prefix_refl _
    · exact List.prefix_append _ _
theorem uniqOn_prefix {κ : Value → Key} (vs : List Value) (i : Nat) : uniqOn κ (vs.take i) <+: uniqOn κ vs := by
  have h := (List.take_append_drop i vs).symm
  conv => rhs; rw [h]
  unfold uniqOn
  rw [List.foldl_append]
  exact uniqFold_prefix _ _
theorem uniqOn_len {κ : Value → Key} (vs : List Value) : (uniqOn κ vs).length ≤ vs.length := by
  revert vs
  refine revInd (by simp [uniqOn]) fun l a ih => ?_
  rw [uniqOn_snoc]
  unfold uniqStep
  split <;> simp <;> omega
theorem uniqOn_mem {κ : Value → Key} (vs : List Value) : ∀ v ∈ uniqOn κ vs, v ∈ vs := by
  revert vs
  refine revInd (by simp [uniqOn]) fun l a ih => ?_
  rw [uniqOn_snoc]
  unfold uniqStep
  split
  · intro v hv; exact List.mem_append_left _ (ih v hv)
  · intro v hv
    rcases List.mem_append.mp hv with hv | hv
    · exact List.mem_append_left _ (ih v hv)
    · exact List.mem_append_right _ hv
/-- what the filters are given: rows (kk), or things -/
def ItemsOk (prog : Program) (w : World) (s : Shared) (kk : Bool) (vs : List Value) (κ : Value → Key) : Prop := ∀ v ∈ vs, ∃ u, IsItem prog w s kk v u ∧ IsThing u (κ v)
theorem ItemsOk.step0 {prog w} {s s' : Shared} {kk vs κ} (h : ItemsOk prog w s kk vs κ) (st : Step0 s s') : ItemsOk prog w s' kk vs κ := fun v hv => let ⟨u, a, b⟩ := h v hv; ⟨u, a.step0 st, b⟩
theorem Key.low_int (k : Key) (b : Bool) : (k.lowIf b).int = k.int := by cases k <;> cases b <;> rfl
theorem any_snoc_key {κ : Value → Key} {out : List Value} {v : Value} (k' : Key) : ((out.any fun u => decide (κ u = k')) || decide (k' = κ v)) = ((out ++ [v]).any fun u => decide (κ u = k')) := by
  rw [List.any_append]
  simp [eq_comm]
/-- «ignore_case if not case_sensitive else None» -/
theorem post_expr {prog : Program} {w : World} {A : Around} {env : Env} {s₀ s : Shared} {m cm} {b : Bool} {p1 p2 p3 p4 p5 : Pos} {Q : Value → Shared → Prop} (F : Run env s₀ m cm s) (X : (KP w.params).In s₀.heap) (hm : m "case_sensitive" = some (.bool b)) (q : Q (Post b) s)
    (hk : env.scope.kind = .function := by kernel_rfl) (k1 : env.kindOf "case_sensitive" = some .local := by kernel_rfl) (k2 : env.kindOf "ignore_case" = some .globalImplicit := by kernel_rfl) (hg : env.globals = mainGlobals := by kernel_rfl) :
    wpAny (model prog w) A (eval (.IfExp (.UnaryOp .Not (.Name "case_sensitive" p1) p2) (.Name "ignore_case" p3) (.Constant .none 0 p4) p5) env) Q NoE s := by
  refine wpAny_IfExp (isTrue_not (isTrue_plain (g_ld F hm (wpAny_truthy_bool ?_) hk k1)))
  cases b
  · simp only [Bool.not_false, if_true]
    exact g_glob F X (.ref 236) q (by kernel_rfl) hk k2 hg
  · simp only [Bool.not_true, Bool.false_eq_true, if_false]
    exact wpAny_Constant_none q
structure UJ (prog : Program) (w : World) (env : Env) (sC : Shared) (S G I : Addr) (g N : Nat) (ib : Bool) (κ : Value → Key) (vs : List Value) (f sa : Addr) (sg : Shared) (i m : Nat) (s₀ s : Shared) (mm cm : Str → Option Value) : Prop where
  run : Run env sC mm cm s
  getter : mm "getter" = some (.ref f)
  seen : mm "seen" = some (.ref sa)
  set : IsSetK prog w ib s sa (fun k => (uniqOn κ (vs.take i)).any fun u => decide (κ u = k)) (uniqOn κ (vs.take i)).length
  cnt : (uniqOn κ (vs.take i)).length + m = N
  sinceg : Step (fun b => Hot env b ∨ b = S) sg s
  step : Step (fun b => Hot env b ∨ b = I ∨ b = sa) s₀ s
  bad : ∀ b xs, (Hot env b ∨ b = I ∨ b = sa) → ¬ IsL s₀ b xs
  base : Step0 sC s₀
  S₀ : ∃ xs, IsL s₀ S xs
  G₀ : s₀.heap.IsGen G g
section
variable {prog : Program} {w : World} {A : Around} {s : Shared}
theorem c_unique {l wd : Addr} {vs : List Value} {b kk ib : Bool} {av : Value} {κ₀ : Value → Key} {args : Args} {Q : Value → Shared → Prop} (R : Rm A 640 940) (X : (KP w.params).In s.heap) (TB : TabsOk s.heap) (hw : IsWorld s wd) (hl : IsL s l vs) (hz : vs.length ≤ 100) (ha : IsAttr av kk)
    (hi : ItemsOk prog w s kk vs κ₀) (hib : ∀ v ∈ vs, (κ₀ v).int = ib)
    (hbind : peek (KP w.params) ⟨prog, w.params⟩ (bindArgs (fdAt w.params 279) args) = some [(("environment" : Str), Value.ref wd), ("value", .ref l), ("case_sensitive", .bool b), ("attribute", av)])
    (h : ∀ G s', Step0 s s' → GenGives prog w s s' G (fun S ys s'' => ys = uniqOn (fun v => (κ₀ v).lowIf b) vs) → Q (.ref G) s') :
    wpAny (model prog w) A (call (.ref 279) args.pos args.kw) Q NoE s := by
  generalize hκ : (fun v => (κ₀ v).lowIf b) = κ at h
  refine call_gen 20 279 X (Nat.lt_of_le_of_lt R.depth (by decide)) hbind (fun L => List.forall_mem_cons.mpr ⟨.inl (by kernel_rfl), List.forall_mem_cons.mpr ⟨.inl (by kernel_rfl), List.forall_mem_cons.mpr ⟨.inl (by kernel_rfl), List.forall_mem_cons.mpr ⟨.inl (by kernel_rfl), List.forall_mem_nil _⟩⟩⟩⟩) (fun L hL G g s1 F1 hG hg hgC nG cG => h G s1 F1.since ?_)
  intro A' Q' R' k
  have hN : (uniqOn κ vs).length ≤ 1000 := Nat.le_trans (uniqOn_len vs) (by omega)
  refine c_list_gen (sC := s) (g := g) (N := (uniqOn κ vs).length) (H := fun _ ys _ => ∀ (j : Nat) (y : Value), ys[j]? = some y → (uniqOn κ vs)[j]? = some y) R' X hgC hN F1.since hG (fun S ys s s' a _ => a) (fun S h j y e => by simp at e) (fun S nS SG => ⟨_, hg, fun A R s2 st2 hS2 out => ⟨rfl, ?_⟩⟩) (fun S ys s' hls hn st hh nSC => k S ys s' st hls ?_ nSC)
  case refine_2 =>
    apply List.ext_getElem?
    intro j
    by_cases hj : j < ys.length
    · have e : ys[j]? = some ys[j] := by simp [hj]
      rw [e, hh j _ e]
    · rw [List.getElem?_eq_none (by omega), List.getElem?_eq_none (by omega)]
  have cS : ¬ Hot (EV 20 279 w.params L) S := F1.hotAt nS
  have nSC : s.heap.get? S = none := F1.newAt nS
  have F2 : Run (EV 20 279 w.params L) s _ _ s2 := (F1.setGen (x := .running) hgC rfl).stepX out (fun b e => e ▸ cS) (fun b e => e ▸ nSC)
  have G2 : s2.heap.IsGen G g := IsGen.stepX (X := At S) (s := s1.setGen g .running) hG out (show ¬ G = S from SG.symm)
  obtain ⟨ol, hol⟩ := hl.some
  refine seg_func ?_
  -- getter = make_attrgetter(..)
  refine seg_st (wpAny_Assign_Name (CallK_ (g_glob F2 X (.ref 244) (cw_fnK ["postprocess"] (spliced_more (g_ld F2 (v := .ref wd) (by kernel_rfl) (spliced_more (g_ld F2 (v := av) (by kernel_rfl) (spliced_none (kw_cons ?_))))))))))
  refine post_expr (b := b) F2 X (by kernel_rfl) (kw_nil ⟨isFn_K (F2.K X), ?_⟩)
  refine c_make (wd := wd) (b := b) (args := ⟨[.ref wd, av], [("postprocess", Post b)]⟩) (rm_func R).mono (F2.K X) (F2.since.tab TB) ha (by cases b <;> kernel_rfl) (fun f s3 h3 hget nf => ?_)
  have F3 := F2.step0 h3
  refine g_st F3 fun s4 F4 h4 => ?_
  -- seen = set()
  refine seg_st (wpAny_Assign_Name (Call_ (g_built F4 X (.type "set") (cw_type0 (op_set0 ib fun sa s5 h5 hset nsa => ?_)))))
  have F5 := F4.step0 h5
  refine g_st F5 fun s6 F6 h6 => ?_
  have csa := F4.hotAt nsa
  have nsa2 : s2.heap.get? sa = none := by
    cases e : s2.heap.get? sa with
    | none => rfl
    | some o =>
      obtain ⟨o', e'⟩ := (h3.up.trans h4).there sa o e csa
      rw [nsa] at e'; cases e'
  have hset6 := hset.step h6 csa
  have S6 : IsL s6 S [] := (((hS2.step0 h3).step h4 cS).step0 h5).step h6 cS
  have saS : sa ≠ S := (ne_new hS2.some nsa2).symm
  have saG : sa ≠ G := (ne_new (let ⟨o, _, _, q, _⟩ := G2; ⟨o, q⟩) nsa2).symm
  have sal : sa ≠ l := (ne_new ⟨_, hol⟩ (F2.newAt nsa2)).symm
  have h26 : Step (Hot (EV 20 279 w.params L)) s2 s6 := ((h3.up.trans h4).trans h5.up).trans h6
  have hgb : ∀ b, (Hot (EV 20 279 w.params L) b ∨ b = S) → ∃ o, s2.heap.get? b = some o ∧ ∀ vs, o.data ≠ .fields vs := by
    rintro b ((rfl | ⟨n, hn⟩) | rfl)
    · obtain ⟨o, es, ep, e, d, _⟩ := F2.act.ns
      exact ⟨o, e, fun vs q => by rw [d] at q; cases q⟩
    · obtain ⟨o, e, d⟩ := F2.act.cell n b hn
      exact ⟨o, e, fun vs q => by rw [d] at q; cases q⟩
    · obtain ⟨n, e⟩ := hS2
      exact ⟨_, e, fun vs q => by cases q⟩
  -- for item in value
  refine seg_execs_cons (seg_for (g_ld F6 (v := .ref l) (by kernel_rfl) (iter_list (hl.step0 F6.since).is (fun I s7 hit h7 nI hI4 => fun pp => ?_) (size_ge (F6.K X)))))
  have F7 := F6.step0 h7
  have cI : ¬ Hot (EV 20 279 w.params L) I := F6.hotAt nI
  have lI : l ≠ I := ne_new (hl.step0 F6.since).some nI
  have IS : I ≠ S := (ne_new S6.some nI).symm
  have G6 : s6.heap.IsGen G g := IsGen.stepX G2 h26 cG
  have IG : I ≠ G := (ne_new (let ⟨o, _, _, q, _⟩ := G6; ⟨o, q⟩) nI).symm
  have saI : sa ≠ I := ne_new hset6.some nI
  have back6 : ∀ x, s6.heap.get? x = none → ¬ Hot (EV 20 279 w.params L) x → s2.heap.get? x = none := fun x n c => by
    cases e : s2.heap.get? x with
    | none => rfl
    | some o =>
      obtain ⟨o', e'⟩ := h26.there x o e c
      rw [n] at e'; cases e'
  have nI2 := back6 I nI cI
  have nIC : s.heap.get? I = none := F6.newAt nI
  have nI3 : s3.heap.get? I = none := by
    cases e : s3.heap.get? I with
    | none => rfl
    | some o =>
      obtain ⟨o', e'⟩ := ((h4.trans h5.up).trans h6).there I o e cI
      rw [nI] at e'; cases e'
  have nsa3 : s3.heap.get? sa = none := by
    cases e : s3.heap.get? sa with
    | none => rfl
    | some o =>
      obtain ⟨o', e'⟩ := h4.there sa o e csa
      rw [nsa] at e'; cases e'
  refine seg_for_loop (src_list (rm_for R).handled cI (F6.cold hol) lI hI4 (by kernel_rfl) (by kernel_rfl)) (fun i m s₀ s' => ∃ mm cm, UJ prog w (EV 20 279 w.params L) s S G I g (uniqOn κ vs).length ib κ vs f sa s3 i m s₀ s' mm cm) ?turn ?fin _ 0 (uniqOn κ vs).length s2 s7 (Nat.sub_zero _) (Nat.zero_le _) ⟨hit, (hl.step0 F7.since).is⟩
    ⟨_, _, F7, by kernel_rfl, by kernel_rfl, by simpa [uniqOn] using hset6.step h7 id, by simp [uniqOn], (((h4.mono fun b e => Or.inl e).trans h5.up).trans (h6.mono fun b e => Or.inl e)).trans h7.up, (h26.mono fun b e => Or.inl e).trans h7.up, ?bad, st2, ⟨_, hS2⟩, G2⟩
  case bad =>
    rintro b zs (hh | rfl | rfl) hb
    · exact F2.act.notList hh hb
    · obtain ⟨n, e⟩ := hb
      rw [nI2] at e; cases e
    · obtain ⟨n, e⟩ := hb
      rw [nsa2] at e; cases e
  case turn =>
    rintro i m s₀ s8 hi' st8 ⟨mm, cm, J⟩
    refine ⟨mm, cm, J.run.act, ?_⟩
    rintro m' s9 ⟨v, hv, rfl⟩ F9' h9 st9 ih
    have hv' : vs[i]? = some v := by simpa using hv
    have hvm : v ∈ vs := List.mem_of_getElem? hv'
    have F9 : Run (EV 20 279 w.params L) s _ cm s9 := ⟨F9', (Step.trans J.run.since.up h9).new (fun b hb _ => hb.elim (fun e => J.run.new b (.inl e)) fun e => e ▸ nIC), J.run.new⟩
    have cnt := J.cnt
    have take1 : uniqOn κ (vs.take (i + 1)) = uniqStep κ (uniqOn κ (vs.take i)) v := by rw [List.take_add_one, hv', Option.toList_some, uniqOn_snoc]
    have pre1 := uniqOn_prefix (κ := κ) vs (i + 1)
    have g9 : Step (fun b => Hot (EV 20 279 w.params L) b ∨ b = S) s3 s9 := (Step.trans (X := fun b => (Hot (EV 20 279 w.params L) b ∨ b = S) ∨ b = I) (J.sinceg.mono fun b e => .inl e) (h9.mono fun b e => e.elim (fun e => .inl (.inl (.inl e))) .inr)).new fun b hb nb => hb.elim (fun e => absurd e nb) fun e => e ▸ nI3
    have st09 := J.step.trans (h9.mono fun b e => e.elim (fun e => .inl (.inl e)) fun e => .inr (.inl e))
    have set9 := J.set.step h9 (fun q => q.elim (fun e => csa (.inl e)) saI)
    have G9 := hget (fun b => Hot (EV 20 279 w.params L) b ∨ b = S) s9 hgb g9
    have f9 : IsFn s9 f := let ⟨_, _, _, _, _, _, _, _, _, _, a, _⟩ := G9; a.fn
    obtain ⟨u, hu1, hu2⟩ := hi v hvm
    have item9 : (fun z : Str => if z = "item" then some v else mm z) "item" = some v := putN
    have get9 : (fun z : Str => if z = "item" then some v else mm z) "getter" = some (.ref f) := keepN J.getter
    have seen9 : (fun z : Str => if z = "item" then some v else mm z) "seen" = some (.ref sa) := keepN J.seen
    -- key = getter(item)
    refine seg_st (wpAny_Assign_Name (Call_ (g_ld F9 get9 (cw_fn (spliced_more (g_ld F9 item9 (spliced_none ⟨f9, c_getter (rm_for R).mono (F9.K X) G9 (hw.step0 F9.since) (hu1.step0 F9.since) hu2 fun kv s10 h10 hkv => ?_⟩)))))))
    have F10 := F9.step0 h10
    refine g_st F10 fun s11 F11 h11 => ?_
    have hkv' : IsKey kv (κ v) := by rw [← hκ]; exact hkv
    have hkb : (κ v).int = ib := by rw [← hκ]; dsimp only; rw [Key.low_int]; exact hib v hvm
    have set11 := (set9.step h10 id).step h11 csa
    have h911 : Step (Hot (EV 20 279 w.params L)) s9 s11 := h10.up.trans h11
    have st011 := st09.trans (h911.mono fun b e => Or.inl e)
    have g11 := g9.trans (h911.mono fun b e => Or.inl e)
    have key11 : (fun z : Str => if z = "key" then some kv else if z = "item" then some v else mm z) "key" = some kv := putN
    have seen11 : (fun z : Str => if z = "key" then some kv else if z = "item" then some v else mm z) "seen" = some (.ref sa) := seen9
    have get11 : (fun z : Str => if z = "key" then some kv else if z = "item" then some v else mm z) "getter" = some (.ref f) := get9
    have item11 : (fun z : Str => if z = "key" then some kv else if z = "item" then some v else mm z) "item" = some v := by kernel_rfl
    generalize (fun z : Str => if z = "key" then some kv else if z = "item" then some v else mm z) = mm11 at F11 key11 seen11 get11 item11
    have it11 : s11.heap.IsListIter I l (i + 1) ∧ s11.heap.IsList l vs.toArray := ⟨isIter_step st9.1 h911 cI, isList_step st9.2 h911 (F6.cold hol)⟩
    have len_i : (uniqOn κ (vs.take i)).length ≤ 100 := Nat.le_trans (uniqOn_len _) (Nat.le_trans (List.length_take_le' _ _) hz)
    -- if key not in seen
    refine seg_execs_cons (seg_if (wpAny_isTrue_Compare1 (g_ld F11 key11 (g_ld F11 seen11 (op_notin set11 hkv' hkb fun s12 h12 => wpAny_truthy_bool ?_)))))
    have F12 := F11.step0 h12
    have set12 := set11.step h12 id
    have st012 := st011.trans h12.up
    have g12 := g11.trans h12.up
    have it12 : s12.heap.IsListIter I l (i + 1) ∧ s12.heap.IsList l vs.toArray := ⟨isIter_step it11.1 h12 id, isList_step it11.2 h12 id⟩
    cases hany : (uniqOn κ (vs.take i)).any fun u => decide (κ u = κ v) with
    | true =>
      simp only [Bool.not_true, Bool.false_eq_true, if_false]
      have e1 : uniqOn κ (vs.take (i + 1)) = uniqOn κ (vs.take i) := by rw [take1]; unfold uniqStep; rw [if_pos hany]
      refine seg_execs_nil (seg_execs_nil (ih m s₀ s12 it12 ⟨mm11, cm, F12, get11, seen11, ?_, by rw [e1]; exact cnt, g12, st012, J.bad, J.base, J.S₀, J.G₀⟩))
      rw [e1]; exact set12
    | false =>
      simp only [Bool.not_false, if_true]
      have e1 : uniqOn κ (vs.take (i + 1)) = uniqOn κ (vs.take i) ++ [v] := by rw [take1]; unfold uniqStep; rw [if_neg (by rw [hany]; exact Bool.false_ne_true)]
      have hlt : (uniqOn κ (vs.take i)).length < (uniqOn κ vs).length := by
        have := pre1.length_le
        rw [e1] at this
        simp at this; omega
      obtain ⟨m1, rfl⟩ : ∃ m1, m = m1 + 1 := ⟨m - 1, by omega⟩
      -- seen.add(key)
      refine seg_st (wpAny_Expr_any (MethodCall_ (g_ld F12 seen11 (meth_add set12 (cw_builtin (spliced_more (g_ld F12 key11 (spliced_none (op_setadd set12 len_i hkv' hkb fun s13 h13 set13 => ?_)))))))))
      have nsaC : s.heap.get? sa = none := F2.newAt nsa2
      have F13 := F12.stepX h13 (fun b e => e ▸ csa) (fun b e => e ▸ nsaC)
      rw [hany] at set13
      simp only [Bool.false_eq_true, if_false] at set13
      have st013 := st012.trans (h13.mono fun b e => Or.inr (Or.inr e))
      have g13 : Step (fun b => Hot (EV 20 279 w.params L) b ∨ b = S) s3 s13 := (Step.trans (X := fun b => (Hot (EV 20 279 w.params L) b ∨ b = S) ∨ b = sa) (g12.mono fun b e => .inl e) (h13.mono fun b e => .inr e)).new fun b hb nb => hb.elim (fun e => absurd e nb) fun e => e ▸ nsa3
      have stay := stays_of st013 J.S₀ J.G₀ (fun q => q.elim cS fun q => q.elim IS.symm saS.symm) (fun q => q.elim cG fun q => q.elim IG.symm saG.symm)
      -- yield item
      refine seg_execs_cons (seg_Expr_Yield rfl rfl rfl (g_ld F13 item11 ?_))
      intro kap hk
      refine ⟨F13.since, st013.gens, stay, fun ys hy hh j y e => ?_, fun s14 k14 o14 S14 => hk .none s14 ?_⟩
      · by_cases hj : j < ys.length
        · rw [List.getElem?_append_left hj] at e; exact hh j y e
        · rw [List.getElem?_append_right (by omega)] at e
          have hj0 : j - ys.length = 0 := by
            have := (List.getElem?_eq_some_iff.mp e).1
            simp at this; omega
          rw [hj0] at e
          simp at e
          subst e
          have hjl : j = (uniqOn κ (vs.take i)).length := by omega
          rw [hjl]
          obtain ⟨r, hr⟩ := pre1
          rw [← hr, e1]
          simp
      · have F14 : Run (EV 20 279 w.params L) s _ cm s14 := F13.stepX o14 (fun b e => e ▸ cS) (fun b e => e ▸ nSC)
        have G14 : s14.heap.IsGen G g := IsGen.stepX (stay.gen J.G₀) o14 (show ¬ G = S from SG.symm)
        have it13 : s13.heap.IsListIter I l (i + 1) ∧ s13.heap.IsList l vs.toArray := ⟨isIter_step it12.1 h13 (show ¬ I = sa from saI.symm), isList_step it12.2 h13 (show ¬ l = sa from sal.symm)⟩
        have it14 : s14.heap.IsListIter I l (i + 1) ∧ s14.heap.IsList l vs.toArray := ⟨isIter_step it13.1 o14 (show ¬ I = S from IS), isList_step it13.2 o14 (show ¬ l = S from ne_new ⟨_, hol⟩ nSC)⟩
        have set14 := set13.step o14 (show ¬ sa = S from saS)
        refine seg_execs_nil (seg_execs_nil (ih m1 s14 s14 it14 ⟨mm11, cm, F14, get11, seen11, ?_, by rw [e1]; simp; omega, g13.trans (o14.mono fun b e => Or.inr e), Step.refl _ _, ?_, k14, S14, G14⟩))
        · rw [e1, List.length_append]
          have : (fun k => (uniqOn κ (vs.take i) ++ [v]).any fun u => decide (κ u = k)) = fun k' => ((uniqOn κ (vs.take i)).any fun u => decide (κ u = k')) || decide (k' = κ v) := funext fun k' => (any_snoc_key k').symm
          rw [this]
          exact set14
        · rintro b zs (hh | rfl | rfl) hb
          · exact F14.act.notList hh hb
          · exact iter_notList it14.1 hb
          · exact set14.notList hb
  case fin =>
    rintro m s₀ s8 s9 ⟨mm, cm, J⟩ h9 c
    have F9 := J.run.stepX h9 (fun b e => e ▸ cI) (fun b e => e ▸ nIC)
    have st09 := J.step.trans (h9.mono fun b e => Or.inr (Or.inl e))
    have cnt := J.cnt
    have full : vs.take vs.toArray.size = vs := by simp
    rw [full] at cnt
    exact seg_back (seg_execs_nil (seg_end (.ok (.ret .none)) ⟨rfl, by omega, F9.since, stays_of st09 J.S₀ J.G₀ (fun q => q.elim cS fun q => q.elim IS.symm saS.symm) (fun q => q.elim cG fun q => q.elim IG.symm saG.symm), fun ys hh => hh⟩))
end
end Mine
end
section
open PySem PySem.W PySem.W.X PyProof.Rows
namespace Mine
theorem same_of_int {a b : Key} (h : a.int = b.int) : a.same b = true := by cases a <;> cases b <;> simp_all [Key.int, Key.same]
theorem hot_noFields {env : Env} {m cm} {s : Shared} (F : Act env m cm s) : ∀ b, Hot env b → ∃ o, s.heap.get? b = some o ∧ ∀ vs, o.data ≠ .fields vs := by
  rintro b (rfl | ⟨n, hn⟩)
  · obtain ⟨o, es, ep, e, d, _⟩ := F.ns
    exact ⟨o, e, fun vs q => by rw [d] at q; cases q⟩
  · obtain ⟨o, e, d⟩ := F.cell n b hn
    exact ⟨o, e, fun vs q => by rw [d] at q; cases q⟩
section
variable {prog : Program} {w : World} {A : Around} {s : Shared}
theorem c_dosort {l wd : Addr} {vs : List Value} {b rev kk ib : Bool} {av : Value} {κ₀ : Value → Key} {args : Args} {Q : Value → Shared → Prop} (R : Rm A 630 930) (X : (KP w.params).In s.heap) (TB : TabsOk s.heap) (hw : IsWorld s wd) (hl : IsL s l vs) (hz : vs.length < 64) (ha : IsAttr av kk)
    (hi : ItemsOk prog w s kk vs κ₀) (hib : ∀ v ∈ vs, (κ₀ v).int = ib)
    (hbind : peek (KP w.params) ⟨prog, w.params⟩ (bindArgs (fdAt w.params 271) args) = some [(("environment" : Str), Value.ref wd), ("value", .ref l), ("reverse", .bool rev), ("case_sensitive", .bool b), ("attribute", av)])
    (h : ∀ r s', Step0 s s' → IsL s' r (lawOrder (fun v => (κ₀ v).lowIf b) rev vs) → s.heap.get? r = none → Q (.ref r) s') :
    wpAny (model prog w) A (call (.ref 271) args.pos args.kw) Q NoE s := by
  refine call_txt 19 271 X (Nat.lt_of_le_of_lt R.depth (by decide)) hbind (fun L => List.forall_mem_cons.mpr ⟨.inl (by kernel_rfl), List.forall_mem_cons.mpr ⟨.inl (by kernel_rfl), List.forall_mem_cons.mpr ⟨.inl (by kernel_rfl), List.forall_mem_cons.mpr ⟨.inl (by kernel_rfl), List.forall_mem_cons.mpr ⟨.inl (by kernel_rfl), List.forall_mem_nil _⟩⟩⟩⟩⟩) (fun L hL s₁ F0 h01 hn => ?_)
  have R1 := R.deeper (EV 19 271 w.params L)
  have F : Run (EV 19 271 w.params L) s _ _ s₁ := ⟨F0, h01, hn⟩
  refine wpAny_execs_cons (wpAny_Assign_Name (CallK_ (g_glob F X (.ref 250) (cw_fnK ["postprocess"] (spliced_more (g_ld F (v := .ref wd) (by kernel_rfl) (spliced_more (g_ld F (v := av) (by kernel_rfl) (spliced_none (kw_cons ?_))))))))))
  refine post_expr (b := b) F X (by kernel_rfl) (kw_nil ⟨isFn_K (F.K X), ?_⟩)
  refine c_makeM (wd := wd) (b := b) (args := ⟨[.ref wd, av], [("postprocess", Post b)]⟩) R1.mono (F.K X) (F.since.tab TB) ha (by cases b <;> kernel_rfl) (fun f s2 h2 hget nf => ?_)
  have F2 := F.step0 h2
  refine g_st F2 fun s3 F3 h3 => ?_
  have G3 := hget (Hot (EV 19 271 w.params L)) s3 (hot_noFields F.act) h3
  have f3 : IsFn s3 f := (let ⟨_, _, _, _, _, _, _, _, _, _, a⟩ := G3; a.1.fn)
  refine wpAny_execs_cons (wpAny_Return_some (CallK_ (g_built F3 X (.builtin "sorted") (cw_builtinK ["key", "reverse"] (spliced_more (g_ld F3 (v := .ref l) (by kernel_rfl) (spliced_none (kw_cons (g_ld F3 (v := .ref f) putN (kw_cons (g_ld F3 (v := .bool rev) (by kernel_rfl) (kw_nil ?_)))))))))))) 
  refine c_sortedL (kw := [("key", .ref f), ("reverse", .bool rev)]) (lk := true) (κ := fun v => (κ₀ v).lowIf b) R1.mono (ksk_s2 _ _ _) (fun x => ksk_l2 _ _ _) (fun x => ksk_t2 _ _ _) (hl.step0 F3.since) hz ⟨f3, fun v hv A' s' Q' R' st k => ?_⟩ (fun v hv => ?_) (fun v hv u hu => ?_) (fun r s4 h4 hr nr => ?_)
  · obtain ⟨u, hu1, hu2⟩ := hi v hv
    refine c_getterM R' ((KP.step0 (F3.K X) st)) (G3.step0 st) (hw.step0 (F3.since.trans st)) (hu1.step0 (F3.since.trans st)) hu2 fun r' x s'' st' hr hx nr => k _ s'' st' fun Bad hBad => ⟨r', x, rfl, fun q => ?_, hr, hx⟩
    obtain ⟨o, e⟩ := hBad r' q
    rw [nr] at e; cases e
  · obtain ⟨u, _, hu2⟩ := hi v hv
    exact hu2.one b
  · exact same_of_int (by rw [Key.low_int, Key.low_int, hib v hv, hib u hu])
  · exact h r s4 (F3.since.trans h4) hr (F3.newAt nr)
end
end Mine
end
section
open PySem PySem.W PySem.W.X PyProof.Rows
namespace Mine
section
variable {prog : Program} {w : World} {A : Around} {s : Shared} {env : Env}
/-- a source that bears a fact along -/
theorem Itr.with {target : Expr} {I : Addr} {Dp Y : Addr → Prop} {n : Nat} {V : Nat → Value → Shared → Prop} {St : Nat → Shared → Prop} (T : Itr prog w A target I Dp Y n V St) (D : Addr → Prop) (P : Shared → Prop) (there : ∀ s, P s → ∀ b, D b → ∃ o, s.heap.get? b = some o)
    (stable : ∀ (Z : Addr → Prop) s s', P s → Step Z s s' → (∀ b, Z b → ¬ D b) → P s') (ap : ∀ b, Y b → ¬ D b) : Itr prog w A target I (fun b => Dp b ∨ D b) Y n (fun i v s => V i v s ∧ P s) (fun i s => St i s ∧ P s) where
  sub := fun b y => .inl (T.sub b y)
  above := T.above
  there := fun i s st b d => d.elim (T.there i s st.1 b) (there s st.2 b)
  stable := fun Z i s s' st h n => ⟨T.stable Z i s s' st.1 h fun b z d => n b z (.inl d), stable Z s s' st.2 h fun b z d => n b z (.inr d)⟩
  self := fun s Q st h => T.self s Q st.1 h
  item := fun i s Q hi st h => T.item i s Q hi st.1 fun v s' hv h' st' => h v s' ⟨hv, stable Y s s' st.2 h' ap⟩ h' ⟨st', stable Y s s' st.2 h' ap⟩
  done := fun s Q st h => T.done s Q st.1 h
theorem IsGroup.tuple {s : Shared} {T g kx} (h : IsGroup s T g kx) : ∃ mk, s.heap.IsTuple T #[mk, .ref g] ∧ IsKey mk kx.1 := let ⟨mk, a, b, _⟩ := h; ⟨mk, ⟨_, a, rfl, 0, rfl⟩, b⟩
/-- y = [elt for a, b in groups] -/
theorem comp_groups {elt iter : Expr} {a b y : Str} {pa pb pos pos' py spos : Pos} {k : Nat} {scope : Scope} {s₀ : Shared} {m cm} {P : Params} {Q : Flow → Shared → Prop} (hh : A.handled = none) (X : (KP P).In s₀.heap) (F : Run env s₀ m cm s)
    (h : wpAny (model prog w) A (eval iter env) (fun xv s₁ => ∃ (d : Addr) (gs : List (Key × List Value)) (tg : List (Addr × Addr)), xv = .ref d ∧ Step0 s s₁ ∧ IsGroups s₁ d gs tg ∧ gs.length ≤ 1000 ∧ ¬ Hot env d ∧ (∀ p ∈ tg, ¬ Hot env p.1 ∧ ¬ Hot env p.2) ∧ ∃ nk : Key × List Value → Key,
      (∀ (C : Addr) (i : Nat) (p : Addr × Addr) (kx : Key × List Value) (mk : Value) (m' : Str → Option Value) (s' : Shared), tg[i]? = some p → gs[i]? = some kx → Run (cEnv scope env C) s₀ m' cm s' → IsGroup s' p.1 p.2 kx → m' a = some mk → IsKey mk kx.1 → m' b = some (.ref p.2) → Step (Hot env) s s' →
        ∀ Q' : Value → Shared → Prop, (∀ (T' g' : Addr) (th : Value) (s'' : Shared), Step0 s' s'' → IsT s'' T' [th, .ref g'] → IsKey th (nk kx) → IsL s'' g' kx.2 → s'.heap.get? T' = none → (g' = p.2 ∨ s'.heap.get? g' = none) → Q' (.ref T') s'') → wpAny (model prog w) A (eval elt (cEnv scope env C)) Q' NoE s') ∧
      (∀ (D : Addr) (tg' : List (Addr × Addr)) (s' : Shared), Run env s₀ (fun z => if z = y then some (.ref D) else m z) cm s' → IsGroups s' D (gs.map fun kx => (nk kx, kx.2)) tg' → s.heap.get? D = none → Step (Hot env) s s' → (∀ p ∈ tg', ¬ Hot env p.1 ∧ ¬ Hot env p.2) → Q .next s')) NoE s)
    (ha : ∀ C, (cEnv scope env C).kindOf a = some .local) (hb : ∀ C, (cEnv scope env C).kindOf b = some .local) (hp' : ∀ C, ((cEnv scope env C).scope.kind == .class || ((cEnv scope env C).scope.kind == .module && (cEnv scope env C).locals != (cEnv scope env C).globals)) = false) (hab : a ≠ b)
    (hsw : swapsWith (.ListComp elt [⟨.Tuple [.Name a pa, .Name b pb] k pos', iter, [], 0⟩] scope pos) (some (.Name y py)) spos.line env = pure true := by kernel_rfl)
    (hl : env.kindOf y = some .local := by kernel_rfl) (hp : (env.scope.kind == .class || (env.scope.kind == .module && env.locals != env.globals)) = false := by kernel_rfl)
    (hok : clOk scope.names env.cells = true := by kernel_rfl) (hcell : (scope.names.all fun x => !(x.2 == .cell)) = true := by kernel_rfl) (hkind : scope.kind = .function := by kernel_rfl)
    (hnames : (scope.names.all fun x => !(x.2 == .local) || scope.names.lookup x.1 == some .local) = true := by kernel_rfl) (hs : ∀ x, foldedSetIterable iter env x = pure x := by intro _; rfl) :
    wpAny (model prog w) A (exec (.Assign [.Name y py] (.ListComp elt [⟨.Tuple [.Name a pa, .Name b pb] k pos', iter, [], 0⟩] scope pos) spos) env) Q NoE s := by
  refine comp_assign X F (wpAny_mono h (fun xv s₁ q => ?_) fun _ _ q => q) hsw hl hp hok hcell hkind hnames hs
  obtain ⟨d, gs, tg, rfl, h1, hg, hz, cd, cg, nk, helt, fin⟩ := q
  have F1 := F.step0 h1
  refine iter_list hg.list.is (fun I s₂ hit h2 nI hI4 => ?_) (size_ge (F1.K X))
  have hg2 := hg.step0 h2
  have dI : d ≠ I := ne_new hg.list.some nI
  have h02 := h1.trans h2
  let D : Addr → Prop := fun b => ∃ p ∈ tg, b = p.1 ∨ b = p.2
  have tgI : ∀ p ∈ tg, p.1 ≠ I ∧ p.2 ≠ I := fun p hp => ⟨ne_new (hg.some p hp).1 nI, ne_new (hg.some p hp).2 nI⟩
  have eachP : Itr prog w A (.Tuple [.Name a pa, .Name b pb] k pos') I (fun b => (b = I ∨ b = d) ∨ D b) (fun b => b = I) _ _ _ := Itr.with (itr_list (vs := (tg.map fun p => Value.ref p.1).toArray) hh dI hI4) D (fun s => ∀ (i : Nat) (p : Addr × Addr) (kx : Key × List Value), tg[i]? = some p → gs[i]? = some kx → IsGroup s p.1 p.2 kx) (fun s hP b => by
      rintro ⟨p, hp, e⟩
      obtain ⟨i, hi⟩ := List.getElem?_of_mem hp
      have hl : i < gs.length := by
        have := (List.getElem?_eq_some_iff.mp hi).1
        rw [hg.len] at this; exact this
      obtain ⟨mk, x1, _, x2⟩ := hP i p gs[i] hi (by simp [hl])
      rcases e with rfl | rfl
      · exact x1.some
      · exact x2.some) (fun Z s s' hP st nz i p kx e1 e2 => (hP i p kx e1 e2).step st (fun z => nz _ z ⟨p, List.mem_of_getElem? e1, .inl rfl⟩) fun z => nz _ z ⟨p, List.mem_of_getElem? e1, .inr rfl⟩) (fun b e => by
      rintro ⟨p, hp, e'⟩
      subst e
      rcases e' with e' | e'
      · exact (tgI p hp).1 e'.symm
      · exact (tgI p hp).2 e'.symm)
  refine ⟨I, _, _, _, _, fun i m m' => ∃ p q, (∃ pr kx, tg[i]? = some pr ∧ gs[i]? = some kx ∧ q = .ref pr.2 ∧ IsKey p kx.1) ∧ m' a = some p ∧ m' b = some q ∧ ∀ z, z ≠ a → z ≠ b → m' z = m z, _, rfl, h02, ?_, eachP, ⟨⟨hit, hg2.list.is⟩, hg2.each⟩, by simp [hg.len]; exact hz, ?_, ?_, ?_⟩
  · rintro b rfl; exact h1.notThere nI
  · rintro b ((rfl | rfl) | ⟨p, hp, rfl | rfl⟩)
    · exact F1.hotAt nI
    · exact cd
    · exact (cg p hp).1
    · exact (cg p hp).2
  · intro i C
    refine bnd_pair (G := fun p q => ∃ pr kx, tg[i]? = some pr ∧ gs[i]? = some kx ∧ q = .ref pr.2 ∧ IsKey p kx.1) hh (fun v s hv => ?_) (ha C) (hb C) (hp' C) hab
    obtain ⟨⟨hv1, _⟩, hP⟩ := hv
    have hv1 : (tg.map fun p => Value.ref p.1)[i]? = some v := by simpa using hv1
    rw [List.getElem?_map] at hv1
    cases e : tg[i]? with
    | none => rw [e] at hv1; cases hv1
    | some pr =>
      rw [e] at hv1
      have hl : i < gs.length := by
        have := (List.getElem?_eq_some_iff.mp e).1
        rw [hg.len] at this; exact this
      have e2 : gs[i]? = some gs[i] := by simp [hl]
      obtain ⟨mk, ht, hk⟩ := (hP i pr _ e e2).tuple
      exact ⟨pr.1, mk, .ref pr.2, by simpa using hv1.symm, ⟨pr, gs[i], rfl, e2, rfl, hk⟩, ht⟩
  · intro Z hZ
    have old : ∀ b, (∃ o, s₂.heap.get? b = some o) → b ≠ I → ¬ Hot env b → ¬ Z b := fun b e nb nh => hZ b e nb nh
    have oldg : ∀ p ∈ tg, ¬ Z p.1 ∧ ¬ Z p.2 := fun p hp => ⟨old _ (hg2.some p hp).1 (tgI p hp).1 (cg p hp).1, old _ (hg2.some p hp).2 (tgI p hp).2 (cg p hp).2⟩
    refine ⟨fun i ys s' => (∀ (j : Nat) (p : Addr × Addr) (kx : Key × List Value), tg[j]? = some p → gs[j]? = some kx → IsGroup s' p.1 p.2 kx) ∧ ∃ tg' : List (Addr × Addr), ys = (tg'.map fun p => Value.ref p.1) ∧ tg'.length = i ∧ (∀ p ∈ tg', ¬ Z p.1 ∧ ¬ Z p.2) ∧ (∀ p ∈ tg', (¬ Hot env p.1 ∧ ¬ Hot env p.2)) ∧
      ∀ (j : Nat) (p : Addr × Addr) (kx : Key × List Value), tg'[j]? = some p → gs[j]? = some kx → IsGroup s' p.1 p.2 (nk kx, kx.2), ⟨fun s' st => ⟨fun j p kx e1 e2 => (hg2.each j p kx e1 e2).step st (oldg p (List.mem_of_getElem? e1)).1 (oldg p (List.mem_of_getElem? e1)).2, [], rfl, rfl, by simp, by simp, fun j p kx e => by simp at e⟩, ?_, ?_⟩, ?_⟩
    · rintro i ys s3 s4 ⟨hP, tg', e, hl', nz, nh, hP'⟩ st
      exact ⟨fun j p kx e1 e2 => (hP j p kx e1 e2).step st (oldg p (List.mem_of_getElem? e1)).1 (oldg p (List.mem_of_getElem? e1)).2, tg', e, hl', nz, nh, fun j p kx e1 e2 => (hP' j p kx e1 e2).step st (nz p (List.mem_of_getElem? e1)).1 (nz p (List.mem_of_getElem? e1)).2⟩
    · rintro i ys C mm m' s3 hi ⟨hP, tg', rfl, hl', nz, nh, hP'⟩ ⟨p, q, ⟨pr, kx, e1, e2, rfl, hk⟩, b1, b2, bk⟩ R3 h23 ex
      refine wpAny_tests_nil ⟨Step.refl _ _, ?_⟩
      simp only [if_true]
      have st3 : Step (Hot env) s s3 := (Step.trans (X := Z) h02.up h23).new fun b z nh => by
        cases e : s.heap.get? b with
        | none => rfl
        | some o =>
          obtain ⟨o', e'⟩ := h02.there b o e id
          by_cases bi : b = I
          · have := h1.notThere nI
            rw [← bi, e] at this; cases this
          · exact absurd z (old b ⟨o', e'⟩ bi nh)
      refine helt C i pr kx p m' s3 e1 e2 R3 (hP i pr kx e1 e2) b1 hk b2 st3 _ (fun T' g' th s4 h4 hT hth hg' nT ng' => ⟨h4, fun j p kx e1 e2 => (hP j p kx e1 e2).step h4 id id, tg' ++ [(T', g')], by simp, by simp [hl'], ?_, ?_, ?_⟩)
      · intro p hp
        rcases List.mem_append.mp hp with hp | hp
        · exact nz p hp
        · rw [List.mem_singleton.mp hp]
          have fresh : ∀ b, s3.heap.get? b = none → ¬ Z b := fun b n z => by
            obtain ⟨o, e⟩ := ex b z
            rw [n] at e; cases e
          refine ⟨fresh _ nT, ?_⟩
          rcases ng' with rfl | ng'
          · exact (oldg pr (List.mem_of_getElem? e1)).2
          · exact fresh _ ng'
      · intro p hp
        rcases List.mem_append.mp hp with hp | hp
        · exact nh p hp
        · rw [List.mem_singleton.mp hp]
          have fresh : ∀ b, s3.heap.get? b = none → ¬ Hot env b := fun b n hb => by
            obtain ⟨o, e⟩ : ∃ o, s.heap.get? b = some o := by
              cases e : s.heap.get? b with
              | some o => exact ⟨o, rfl⟩
              | none => exact absurd hb (F.hotAt e)
            obtain ⟨o', e'⟩ := h02.there b o e id
            by_cases z : Z b
            · obtain ⟨o2, e2⟩ := ex b z
              rw [n] at e2; cases e2
            · obtain ⟨o2, e2⟩ := h23.there b o' e' z
              rw [n] at e2; cases e2
          refine ⟨fresh _ nT, ?_⟩
          rcases ng' with rfl | ng'
          · exact (cg pr (List.mem_of_getElem? e1)).2
          · exact fresh _ ng'
      · intro j p kx' e3 e4
        by_cases hj : j < tg'.length
        · rw [List.getElem?_append_left hj] at e3
          exact (hP' j p kx' e3 e4).step h4 id id
        · rw [List.getElem?_append_right (by omega)] at e3
          have hj0 : j - tg'.length = 0 := by
            have := (List.getElem?_eq_some_iff.mp e3).1
            simp at this; omega
          rw [hj0] at e3
          simp at e3
          subst e3
          obtain rfl : j = i := by omega
          rw [e2] at e4; cases e4
          exact ⟨th, hT, hth, hg'⟩
    · rintro D' ys s3 ⟨hP, tg', rfl, hl', nz, nh, hP'⟩ hD nD R3 st3
      have hn : tg'.length = gs.length := by rw [hl']; simp [hg.len]
      refine fin D' tg' s3 R3 ⟨hD, by simp [hn], fun j p kx e1 e2 => ?_⟩ nD st3 nh
      rw [List.getElem?_map] at e2
      cases e : gs[j]? with
      | none => rw [e] at e2; cases e2
      | some kx0 =>
        rw [e] at e2
        cases e2
        exact hP' j p kx0 e1 e
end
end Mine
end
section
open PySem PySem.W PySem.W.X PyProof.Rows
namespace Mine
theorem groupOn_all {κ : Value → Key} (vs : List Value) : ∀ kx ∈ groupOn κ vs, kx.2 ≠ [] ∧ ∀ x ∈ kx.2, κ x = kx.1 ∧ x ∈ vs := by
  revert vs
  refine revInd (by simp [groupOn]) fun l a ih => ?_
  rw [groupOn_snoc]
  generalize groupOn κ l = gs at ih
  have old : ∀ kx ∈ gs, kx.2 ≠ [] ∧ ∀ x ∈ kx.2, κ x = kx.1 ∧ x ∈ l ++ [a] := fun kx h => ⟨(ih kx h).1, fun x hx => ⟨((ih kx h).2 x hx).1, List.mem_append_left _ ((ih kx h).2 x hx).2⟩⟩
  have new : ∀ kx ∈ [((κ a, [a]) : Key × List Value)], kx.2 ≠ [] ∧ ∀ x ∈ kx.2, κ x = kx.1 ∧ x ∈ l ++ [a] := fun kx h => by
    rw [List.mem_singleton.mp h]
    exact ⟨by simp, fun x hx => by rw [List.mem_singleton.mp hx]; exact ⟨rfl, by simp⟩⟩
  unfold groupStep
  split
  · rename_i k xs hlast
    have hm : (k, xs) ∈ gs := List.mem_of_getLast? hlast
    split
    · rename_i hk
      intro kx h
      rcases List.mem_append.mp h with h | h
      · exact old kx ((List.dropLast_sublist gs).subset h)
      · rw [List.mem_singleton.mp h]
        refine ⟨by simp, fun x hx => ?_⟩
        rcases List.mem_append.mp hx with hx | hx
        · exact (old _ hm).2 x hx
        · rw [List.mem_singleton.mp hx]; exact ⟨hk.symm, by simp⟩
    · intro kx h
      rcases List.mem_append.mp h with h | h
      · exact old kx h
      · exact new kx h
  · intro kx h
    rcases List.mem_append.mp h with h | h
    · exact old kx h
    · exact new kx h
theorem Getter.fn {s : Shared} {f wd b k} (h : Getter s f wd b k) : IsFn s f := let ⟨_, _, _, _, _, _, _, _, _, _, a, _⟩ := h; a.fn
/-- what groupby gives back: the groups, each told by its first thing -/
def told (κ₀ : Value → Key) (gs : List (Key × List Value)) : List (Key × List Value) := gs.map fun kx => (κ₀ (kx.2.headD .none), kx.2)
section
variable {prog : Program} {w : World} {A : Around} {s : Shared}
theorem c_groups {l wd : Addr} {vs : List Value} {b ib : Bool} {t : Tok} {κ₀ : Value → Key} {args : Args} {Q : Value → Shared → Prop} (R : Rm A 630 930) (X : (KP w.params).In s.heap) (TB : TabsOk s.heap) (hw : IsWorld s wd) (hl : IsL s l vs) (hz : vs.length < 64)
    (hi : ItemsOk prog w s true vs κ₀) (hib : ∀ v ∈ vs, (κ₀ v).int = ib)
    (hbind : peek (KP w.params) ⟨prog, w.params⟩ (bindArgs (fdAt w.params 316) args) = some [(("environment" : Str), Value.ref wd), ("value", .ref l), ("attribute", .str "k" t), ("default", .none), ("case_sensitive", .bool b)])
    (h : ∀ r tg s', Step0 s s' → IsGroups s' r (told κ₀ (groupOn (fun v => (κ₀ v).lowIf b) (lawOrder (fun v => (κ₀ v).lowIf b) false vs))) tg → s.heap.get? r = none → Q (.ref r) s') :
    wpAny (model prog w) A (call (.ref 316) args.pos args.kw) Q NoE s := by
  generalize hκ : (fun v => (κ₀ v).lowIf b) = κ at h
  have hsame : ∀ v ∈ vs, ∀ u ∈ vs, (κ v).same (κ u) = true := fun v hv u hu => by
    rw [← hκ]
    exact same_of_int (by dsimp only; rw [Key.low_int, Key.low_int, hib v hv, hib u hu])
  refine call_txt 25 316 X (Nat.lt_of_le_of_lt R.depth (by decide)) hbind (fun L => List.forall_mem_cons.mpr ⟨.inl (by kernel_rfl), List.forall_mem_cons.mpr ⟨.inl (by kernel_rfl), List.forall_mem_cons.mpr ⟨.inl (by kernel_rfl), List.forall_mem_cons.mpr ⟨.inl (by kernel_rfl), List.forall_mem_cons.mpr ⟨.inl (by kernel_rfl), List.forall_mem_nil _⟩⟩⟩⟩⟩) (fun L hL s₁ F0 h01 hn => ?_)
  have R1 := R.deeper (EV 25 316 w.params L)
  have F : Run (EV 25 316 w.params L) s _ _ s₁ := ⟨F0, h01, hn⟩
  -- expr = make_attrgetter(..)
  refine wpAny_execs_cons (wpAny_Assign_Name (CallK_ (g_glob F X (.ref 244) (cw_fnK ["postprocess", "default"] (spliced_more (g_ld F (v := .ref wd) (by kernel_rfl) (spliced_more (g_ld F (v := .str "k" t) (by kernel_rfl) (spliced_none (kw_cons ?_))))))))))
  refine post_expr (b := b) F X (by kernel_rfl) ?_
  refine kw_cons (g_ld F (v := .none) (by kernel_rfl) (kw_nil ?_))
  refine ⟨isFn_K (F.K X), ?_⟩
  refine c_make (wd := wd) (b := b) (args := ⟨[.ref wd, .str "k" t], [("postprocess", Post b), ("default", .none)]⟩) R1.mono (F.K X) (F.since.tab TB) (.inr ⟨t, rfl, rfl⟩) (by cases b <;> kernel_rfl) (fun f s2 h2 hget nf => ?_)
  have F2 := F.step0 h2
  refine g_st F2 fun s3 F3 h3 => ?_
  have G3 : Getter s3 f wd b true := hget (Hot (EV 25 316 w.params L)) s3 (hot_noFields F.act) h3
  -- what the getter answers
  have keyfn : ∀ s', Step0 s3 s' → ∀ ws, (∀ v ∈ ws, v ∈ vs) → KeyFn prog w s' f ws κ := fun s' st ws sub => ⟨G3.fn.step0 st, fun v hv A' s'' Q' R' st' k => by
    obtain ⟨u, hu1, hu2⟩ := hi v (sub v hv)
    have since := F3.since.trans (st.trans st')
    exact c_getter R' (KP.step0 X since) (G3.step0 (st.trans st')) (hw.step0 since) (hu1.step0 since) hu2 fun r s4 h4 hk => k r s4 h4 (by rw [← hκ]; exact hk)⟩
  have nl : ∀ r s4, Step0 s3 s4 → s3.heap.get? r = none → ¬ Hot (EV 25 316 w.params L) r := fun r s4 _ n => F3.hotAt n
  have mexpr : (fun z : Str => if z = "expr" then some (Value.ref f) else mL (EV 25 316 w.params L) [("environment", .ref wd), ("value", .ref l), ("attribute", .str "k" t), ("default", .none), ("case_sensitive", .bool b)] z) "expr" = some (.ref f) := by kernel_rfl
  -- out = [(key, list(values)) for key, values in groupby(sorted(value, key=expr), expr)]
  refine wpAny_execs_cons (comp_groups R1.handled X F3 (Call_ (g_glob F3 X (.ref 310) (cw_fn (spliced_more (CallK_ (g_built F3 X (.builtin "sorted") (cw_builtinK ["key"] (spliced_more (g_ld F3 (v := .ref l) (by kernel_rfl) (spliced_none (kw_cons (g_ld F3 (v := .ref f) mexpr (kw_nil ?_))))))))))))) (fun C => by kernel_rfl) (fun C => by kernel_rfl) (fun C => by kernel_rfl) (by decide))
  refine c_sortedL (kw := [("key", .ref f)]) (lk := false) (b := false) (κ := κ) R1.mono (ksk_s1 _ _) (fun x => ksk_l1 _ _) (fun x => ksk_t1 _ _) (hl.step0 F3.since) hz (keyfn s3 (Step.refl _ _) vs fun v hv => hv).g (fun v hv => ?_) hsame (fun sl s4 h4 hsl nsl => ?_)
  · obtain ⟨u, _, hu2⟩ := hi v hv
    rw [← hκ]; exact hu2.one b
  have F4 := F3.step0 h4
  refine spliced_more (g_ld F4 (v := .ref f) mexpr (spliced_none ⟨isFn_K (F4.K X), ?_⟩))
  have smem : ∀ v ∈ lawOrder κ false vs, v ∈ vs := fun v hv => (lawOrder_mem κ false v vs).mp hv
  refine c_groupby R1.mono (F4.K X) hsl (by rw [lawOrder_len]; omega) (keyfn s4 h4 _ smem) (fun v hv u hu => hsame v (smem v hv) u (smem u hu)) (fun d tg s5 h5 hg nd ntg => ?_)
  have h35 := h4.trans h5
  have galln := groupOn_all (κ := κ) (lawOrder κ false vs)
  generalize hgs : groupOn κ (lawOrder κ false vs) = gs at hg h galln
  have glen : gs.length ≤ 100 := by
    rw [← hgs]; exact Nat.le_trans (groupOn_len _ _) (by rw [lawOrder_len]; omega)
  have cd : ¬ Hot (EV 25 316 w.params L) d := F4.hotAt nd
  have ctg : ∀ p ∈ tg, ¬ Hot (EV 25 316 w.params L) p.1 ∧ ¬ Hot (EV 25 316 w.params L) p.2 := fun p hp => ⟨F4.hotAt (ntg p hp).1, F4.hotAt (ntg p hp).2⟩
  refine ⟨d, gs, tg, rfl, h35, hg, by omega, cd, ctg, fun kx => kx.1, ?elt, ?fin⟩
  case elt =>
    intro C i p kx mk m' s6 e1 e2 R6 hgr ma hmk mb h6 Q' kk
    obtain ⟨mk', hT, _, hxs⟩ := hgr
    have klen : kx.2.length ≤ 1000 := by
      have := (groupOn_key (κ := κ) (lawOrder κ false vs)).2 kx (by rw [hgs]; exact List.mem_of_getElem? e2)
      rw [lawOrder_len] at this; omega
    refine Tuple_ (spliced_more (g_ld R6 ma (spliced_more (Call_ (g_built R6 X (.type "list") (cw_type (spliced_more (g_ld R6 mb (spliced_none (op_listL hxs klen fun g' s7 h7 hg' ng' => ?_))))))))))
    refine spliced_none (wpAny_newTuple ?_)
    exact kk _ g' mk _ (h7.trans (Step0.push _ _)) (Heap.get?_push_size _ rfl) hmk (hg'.step0 (Step0.push _ _)) (h7.notThere (Heap.get?_none_of_le (Nat.le_refl _))) (.inr ng')
  case fin =>
    intro D tg1 s6 F6 hg6 nD h6 ctg1
    have D1 : ¬ Hot (EV 25 316 w.params L) D := F3.hotAt nD
    have gs1 : (gs.map fun kx => (kx.1, kx.2)) = gs := by simp
    rw [gs1] at hg6
    -- if not case_sensitive
    refine wpAny_execs_cons (wpAny_If (isTrue_not (isTrue_plain (g_ld F6 (v := .bool b) (by kernel_rfl) (wpAny_truthy_bool ?_)))))
    have mem : ∀ kx ∈ gs, ∃ v, kx.2 = v :: kx.2.tail ∧ v ∈ vs ∧ κ v = kx.1 := fun kx hk => by
      obtain ⟨ne, al⟩ := galln kx hk
      cases e : kx.2 with
      | nil => exact absurd e ne
      | cons v r =>
        have := al v (by rw [e]; simp)
        exact ⟨v, by simp, smem v this.2, this.1⟩
    cases b with
    | true =>
      simp only [Bool.not_true, Bool.false_eq_true, if_false]
      have et : told κ₀ gs = gs := by
        unfold told
        have : gs.map (fun kx => (κ₀ (kx.2.headD .none), kx.2)) = gs.map id := List.map_congr_left fun kx hk => by
          obtain ⟨v, e, _, e2⟩ := mem kx hk
          have e3 : kx.2.headD .none = v := by rw [e]; rfl
          have e4 : κ₀ v = kx.1 := by rw [← e2, ← hκ]; rfl
          rw [e3, e4]; rfl
        rw [this, List.map_id]
      refine wpAny_execs_nil (wpAny_execs_cons (wpAny_Return_some (g_ld F6 (v := .ref D) (by kernel_rfl) ?_)))
      exact h D tg1 s6 F6.since (by rw [et]; exact hg6) (F3.newAt nD)
    | false =>
      simp only [Bool.not_false, if_true]
      -- output_expr = make_attrgetter(environment, attribute, default=default)
      refine wpAny_execs_cons (wpAny_Assign_Name (CallK_ (g_glob F6 X (.ref 244) (cw_fnK ["default"] (spliced_more (g_ld F6 (v := .ref wd) (by kernel_rfl) (spliced_more (g_ld F6 (v := .str "k" t) (by kernel_rfl) (spliced_none (kw_cons (g_ld F6 (v := .none) (by kernel_rfl) (kw_nil ⟨isFn_K (F6.K X), ?_⟩)))))))))))) 
      refine c_make (wd := wd) (b := true) (args := ⟨[.ref wd, .str "k" t], [("default", .none)]⟩) R1.mono (F6.K X) (F6.since.tab TB) (.inr ⟨t, rfl, rfl⟩) (by kernel_rfl) (fun f2 s7 h7 hget2 nf2 => ?_)
      have F7 := F6.step0 h7
      refine g_stc F7 (c := celA 25 316 w.params L "output_expr") (by kernel_rfl) fun s8 F8 h8 => ?_
      have hg8 := (hg6.step0 h7).step h8 D1 ctg1
      have h68 : Step (Hot (EV 25 316 w.params L)) s6 s8 := h7.up.trans h8
      -- out = [(output_expr(values[0]), values) for _, values in out]
      refine wpAny_execs_cons (comp_groups R1.handled X F8 (g_ld F8 (v := .ref D) (by kernel_rfl) ⟨D, gs, tg1, rfl, Step.refl _ _, hg8, by omega, D1, ctg1, fun kx => κ₀ (kx.2.headD .none), ?elt2, ?fin2⟩) (fun C => by kernel_rfl) (fun C => by kernel_rfl) (fun C => by kernel_rfl) (by decide))
      case elt2 =>
        intro C i p kx mk m' s9 e1 e2 R9 hgr ma hmk mb h9 Q' kk
        obtain ⟨mk', hT, _, hxs⟩ := hgr
        obtain ⟨v, ev, hv, _⟩ := mem kx (List.mem_of_getElem? e2)
        obtain ⟨u, hu1, hu2⟩ := hi v hv
        have G9 : Getter s9 f2 wd true true := hget2 (Hot (EV 25 316 w.params L)) s9 (hot_noFields F6.act) (h8.trans h9)
        have klen : kx.2.length ≤ 1000 := by
          have := (groupOn_key (κ := κ) (lawOrder κ false vs)).2 kx (by rw [hgs]; exact List.mem_of_getElem? e2)
          rw [lawOrder_len] at this; omega
        have hlen1 : kx.2[0]? = some v := by rw [ev]; rfl
        refine Tuple_ (spliced_more (Call_ (g_ldc R9 (c := celA 25 316 w.params L "output_expr") (v := .ref f2) (by kernel_rfl) (by kernel_rfl) (cw_fn (spliced_more (Subscript_ (g_ld R9 mb (g_int fun t10 s10 h10 => sub_item (k := 0) (hxs.step0 h10) hlen1 klen (spliced_none ⟨G9.fn.step0 h10, ?_⟩) rfl))))))))
        refine c_getter R1.mono (KP.step0 X (R9.since.trans h10)) (G9.step0 h10) (hw.step0 (R9.since.trans h10)) (hu1.step0 (R9.since.trans h10)) hu2 fun th s11 h11 hth => ?_
        have h911 := h10.trans h11
        refine spliced_more (g_ld (R9.step0 h911) mb (spliced_none (wpAny_newTuple ?_)))
        refine kk _ p.2 th _ (h911.trans (Step0.push _ _)) (Heap.get?_push_size _ rfl) ?_ ((hxs.step0 h911).step0 (Step0.push _ _)) (Step0.notThere h911 (Heap.get?_none_of_le (Nat.le_refl _))) (.inl rfl)
        have e3 : kx.2.headD .none = v := by rw [ev]; rfl
        dsimp only
        rw [e3]
        exact hth
      case fin2 =>
        intro D2 tg2 s9 F9 hg9 nD2 h9 _
        exact wpAny_execs_nil (wpAny_execs_cons (wpAny_Return_some (g_ld F9 (v := .ref D2) (by kernel_rfl) (h D2 tg2 s9 F9.since hg9 (F8.newAt nD2)))))
end
end Mine
end
section
open PySem PySem.W PySem.W.X PyProof.Rows
namespace Mine
section
variable {prog : Program} {w : World} {A : Around} {s : Shared}
/-- sorted, of an argument that is collected into things not yet known -/
theorem c_sortedP {arg : Value} {f : Addr} {lk b : Bool} {P : List Value → Shared → Prop} {kw : List (Str × Value)} {Q : Value → Shared → Prop} (R : Rm A 690 990)
    (ha1 : argsOk "sorted" ⟨[arg], kw⟩) (ha2 : ∀ x, argsOk "list.sort" ⟨[.ref x], kw⟩) (ht : ∀ x, Builtin.«list.sort» ⟨[.ref x], kw⟩ = ksk_tree x (.ref f) b)
    (hc : ∀ (A' : Around) (Q' : List Value → Shared → Prop), A'.handled = none → (∀ vs s', Step0 s s' → P vs s' → Q' vs s') → wpAny (model prog w) A' (collect arg) Q' NoE s)
    (hp : ∀ vs s₁, Step0 s s₁ → P vs s₁ → ∃ κ : Value → Key, vs.length < 64 ∧ KeyFnG lk prog w s₁ f vs κ ∧ (∀ v ∈ vs, (κ v).One) ∧ (∀ v ∈ vs, ∀ u ∈ vs, (κ v).same (κ u) = true) ∧ ∀ r s', Step0 s₁ s' → IsL s' r (lawOrder κ b vs) → s₁.heap.get? r = none → Q (.ref r) s') :
    wpAny (model prog w) A (call (.builtin "sorted") [arg] kw) Q NoE s := by
  refine call_function_entry_kw kind_sorted plain_sorted entry_sorted ha1 ?_
  unfold Builtin.«sorted»
  refine wpAny_bind (m := checkCount "sorted" 1 1 _) (wpAny_pure ?_)
  refine wpAny_bind (noE (hc _ _ R.in1.handled fun vs s₁ st1 hP => ?_))
  obtain ⟨κ, h64, hf, h1, hs, h⟩ := hp vs s₁ st1 hP
  refine wpAny_bind (wpAny_newList ?_ (Nat.le_trans (Nat.le_of_lt h64) (by decide)))
  have st2 : Step0 s₁ { s₁ with heap := s₁.heap.push { cls := .type "list", data := .seq vs.toArray } } := Step0.push _ _
  have hl2 : IsL { s₁ with heap := s₁.heap.push { cls := .type "list", data := .seq vs.toArray } } s₁.heap.objs.size vs := ⟨0, Heap.get?_push_size _ rfl⟩
  have nl : s₁.heap.get? s₁.heap.objs.size = none := Heap.get?_none_of_le (Nat.le_refl _)
  have ty : ({ s₁ with heap := s₁.heap.push { cls := .type "list", data := .seq vs.toArray } } : Shared).TypeIs (.ref s₁.heap.objs.size) "list" := ⟨_, hl2.choose_spec, rfl⟩
  refine wpAny_bind (wpAny_holding (wpAny_call_entry_kw slot_list_sort ty entry_list_sort ?body (ha2 _)))
  have ht' := ht s₁.heap.objs.size
  show wpAny (model prog w) A.in1.in1 (Builtin.«list.sort» ⟨[.ref s₁.heap.objs.size], kw⟩) _ _ _
  rw [ht']
  refine c_tree R.in1.in1.mono st2 nl hl2 h64 hf h1 hs fun s' st' hl' => ⟨_, rfl, wpAny_pure ⟨_, rfl, ?_⟩⟩
  exact h _ s' st' hl' nl
end
/-- the value that a function gives at the place of v in l -/
noncomputable def byPlace {α : Type} (l : List Value) (f : Nat → α) (d : α) (v : Value) : α := open Classical in if h : ∃ i, l[i]? = some v then f (Classical.choose h) else d
theorem byPlace_at {α : Type} {l : List Value} (hn : l.Nodup) {f : Nat → α} {d : α} {v : Value} {i : Nat} (e : l[i]? = some v) : byPlace l f d v = f i := by
  unfold byPlace
  have h : ∃ i, l[i]? = some v := ⟨i, e⟩
  rw [dif_pos h]
  have := Classical.choose_spec h
  rw [(List.getElem?_inj (List.getElem?_eq_some_iff.mp e).1 hn).mp (e.trans this.symm)]
/-- the law's order over places -/
def placeOrder (κ : Nat → Key) (b : Bool) (n : Nat) : List Nat := insAll (fun r d => if b then (κ r).le (κ d) else (κ d).le (κ r)) (List.range n)
theorem insAll_congr {α : Type} {on on' : α → α → Bool} : ∀ (l : List α), (∀ r ∈ l, ∀ d ∈ l, on r d = on' r d) → insAll on l = insAll on' l ∧ ∀ x ∈ insAll on l, x ∈ l := by
  refine revInd (fun _ => ⟨rfl, by simp [insAll]⟩) fun l a ih h => ?_
  obtain ⟨e, m⟩ := ih fun r hr d hd => h r (List.mem_append_left _ hr) d (List.mem_append_left _ hd)
  rw [insAll_snoc, insAll_snoc, ← e]
  have tw : (insAll on l).takeWhile (on a) = (insAll on l).takeWhile (on' a) := by
    have : ∀ (q : List α), (∀ x ∈ q, x ∈ l) → q.takeWhile (on a) = q.takeWhile (on' a) := by
      intro q
      induction q with
      | nil => intro _; rfl
      | cons x r ih => intro hx; rw [List.takeWhile_cons, List.takeWhile_cons, h a (by simp) x (List.mem_append_left _ (hx x (.head _))), ih fun y hy => hx y (.tail _ hy)]
    exact this _ m
  refine ⟨by unfold ins; rw [tw], fun x hx => ?_⟩
  unfold ins at hx
  simp only [List.mem_append, List.mem_singleton] at hx ⊢
  rcases hx with (hx | hx) | hx
  · exact .inl (m x (List.mem_of_mem_take hx))
  · exact .inr hx
  · exact .inl (m x (List.mem_of_mem_drop hx))
theorem lawOrder_places {κ : Value → Key} {b : Bool} {n : Nat} {f : Nat → Value} {g : Nat → Key} (h : ∀ i, i < n → κ (f i) = g i) : lawOrder κ b ((List.range n).map f) = (placeOrder g b n).map f := by
  rw [lawOrder_ins, insAll_map]
  congr 1
  refine (insAll_congr _ fun r hr d hd => ?_).1
  unfold goesOn
  rw [h r (by simpa using hr), h d (by simpa using hd)]
theorem placeOrder_lt {κ : Nat → Key} {b : Bool} {n i : Nat} (h : i ∈ placeOrder κ b n) : i < n := by simpa using (insAll_congr (on := fun r d => if b then (κ r).le (κ d) else (κ d).le (κ r)) (List.range n) fun _ _ _ _ => rfl).2 i h
theorem map_range {vs : List Value} : vs = (List.range vs.length).map fun i => vs.getD i .none := by
  apply List.ext_getElem (by simp)
  intro i h1 h2
  simp [h1]
end Mine
end
section
open PySem PySem.W PySem.W.X PyProof.Rows
namespace Mine
def sortfFd (cl : List (Str × Addr)) (nm cv ct : Value) : FuncData := inFd 18 1 "sort_func" "do_dictsort.<locals>.sort_func" cl nm cv ct
section
variable {prog : Program} {w : World} {A : Around} {s : Shared} {K : Type} [DecidableEq K] {knd : KeyKind prog w K}
/-- the tuples that stand for a dict's items -/
def IsPairs (knd : KeyKind prog w K) (s : Shared) (as : List Addr) (kvs : List (K × Value)) : Prop :=
  as.length = kvs.length ∧ as.Nodup ∧ ∀ (j : Nat) (a : Addr) (k : K) (x : Value), as[j]? = some a → kvs[j]? = some (k, x) → ∃ key, knd.is k key = true ∧ IsT s a [key, x]
theorem IsPairs.step {X : Addr → Prop} {s s' : Shared} {as kvs} (h : IsPairs knd s as kvs) (st : Step X s s') (n : ∀ a ∈ as, ¬ X a) : IsPairs knd s' as kvs :=
  ⟨h.1, h.2.1, fun j a k x e e' => let ⟨key, a1, a2⟩ := h.2.2 j a k x e e'; ⟨key, a1, a2.step st (n a (List.mem_of_getElem? e))⟩⟩
theorem IsPairs.step0 {s s' : Shared} {as kvs} (h : IsPairs knd s as kvs) (st : Step0 s s') : IsPairs knd s' as kvs := h.step st fun _ _ => id
def dictTail : List Stmt := (fnBody 18).drop 1
theorem isTup_of {s : Shared} {a : Addr} {x y : Value} (h : s.heap.get? a = some { cls := .type "tuple", data := .seq #[x, y] }) : IsT s a [x, y] := h
theorem c_dict_tail {L d : Addr} {kvs : List (K × Value)} {p : Nat} {t : Tok} {rev b ib : Bool} {κs : Nat → Key} {m cm} {s₀ : Shared} {Q : Flow → Shared → Prop} (R : Rm A 631 933) (X : (KP w.params).In s₀.heap) (F : Run (EV 18 263 w.params L) s₀ m cm s) (TB : TabsOk s.heap) (hp : p = 0 ∨ p = 1)
    (m1 : m "value" = some (.ref d)) (m2 : m "reverse" = some (.bool rev)) (c1 : cm "case_sensitive" = some (.bool b)) (c2 : cm "pos" = some (.int p t))
    (hd : s.heap.DictOf knd d kvs) (nd : ¬ Hot (EV 18 263 w.params L) d) (hdS : (d == sysModules) = false) (hz : kvs.length < 64)
    (hκ : ∀ (j : Nat) (k : K) (x key y : Value), kvs[j]? = some (k, x) → knd.is k key = true → [key, x][p]? = some y → IsThing y (κs j)) (hib : ∀ j, j < kvs.length → (κs j).int = ib)
    (h : ∀ r as s', Step0 s₀ s' → IsL s' r ((placeOrder (fun j => (κs j).lowIf b) rev kvs.length).map fun j => .ref (as.getD j 0)) → IsPairs knd s' as kvs → s₀.heap.get? r = none → Q (.ret (.ref r)) s') :
    wpAny (model prog w) A (execs dictTail (EV 18 263 w.params L)) Q NoE s := by
  refine wpAny_execs_cons (def_at 18 1 263 (p := ⟨258, 145, 4, "do_dictsort.<locals>.sort_func"⟩) (name := "sort_func") (bind := "sort_func") (c := 262) rfl X F TB (List.mem_of_getElem? (i := 2) rfl) ⟨_, _, by rfl, by rfl, by rfl⟩ (by kernel_rfl) (by kernel_rfl) (by kernel_rfl) (by kernel_rfl) (hd_K (F.K X)) fun f cv ct nm s₂ h2 hf nf => ?_)
  have F2 := F.step0 h2
  refine g_st F2 fun s3 F3 h3 => ?_
  have hd3 : s3.heap.DictOf knd d kvs := dictOf_step (dictOf_step hd h2 id) h3 nd
  have hf3 := hf.hot F2 (F.hotAt nf) h3
  -- return sorted(value.items(), key=sort_func, reverse=reverse)
  refine wpAny_execs_cons (wpAny_Return_some (CallK_ (g_built F3 X (.builtin "sorted") (cw_builtinK ["key", "reverse"] (spliced_more (wpAny_Call_items (knd := knd) hdS hd3 (by kernel_rfl) (by kernel_rfl) (fun Q' q => g_ld F3 (v := .ref d) (by rw [if_neg (by decide)]; exact m1) q) ?_))))))
  have h4 : Step0 s3 { s3 with heap := s3.heap.push { cls := .type "dict_items", data := .fields #[.ref d] } } := Step0.push _ _
  have hv4 : ({ s3 with heap := s3.heap.push { cls := .type "dict_items", data := .fields #[.ref d] } } : Shared).heap.IsItemsView s3.heap.objs.size d := ⟨_, Heap.get?_push_size _ rfl, rfl, rfl⟩
  generalize s3.heap.objs.size = vw at hv4
  generalize hg4 : ({ s3 with heap := s3.heap.push { cls := .type "dict_items", data := .fields #[.ref d] } } : Shared) = s4 at h4 hv4
  have F4 := F3.step0 h4
  have hd4 : s4.heap.DictOf knd d kvs := dictOf_step hd3 h4 id
  have hf4 := hf3.step0 h4
  refine spliced_none (kw_cons (g_ld F4 (v := .ref f) putN (kw_cons (g_ld F4 (v := .bool rev) (by rw [if_neg (by decide)]; exact m2) (kw_nil ?_)))))
  have cc4 : s4.heap.IsCell (celA 18 263 w.params L "case_sensitive") (some (.bool b)) := cell_at "case_sensitive" F4 c1
  have cp4 : s4.heap.IsCell (celA 18 263 w.params L "pos") (some (.int p t)) := cell_at "pos" F4 c2
  refine c_sortedP (kw := [("key", .ref f), ("reverse", .bool rev)]) (lk := false) (b := rev) (P := fun vs s' => ∃ as : List Addr, vs = as.map Value.ref ∧ IsPairs knd s' as kvs) R.mono (ksk_s2 _ _ _) (fun x => ksk_l2 _ _ _) (fun x => ksk_t2 _ _ _) ?coll ?go
  case coll =>
    intro A' Q' hA' q
    obtain ⟨o, es, ep, r⟩ := hd4
    refine kdx_collect (knd := knd) (ep := ep) hA' hv4 ⟨o, es, r⟩ (Nat.le_trans (Nat.le_of_lt hz) (by decide)) fun h' tk as keep hl hG => ?_
    refine q _ _ (Step0.of_heap (t := tk) keep) ⟨as, rfl, hl, hG.rise.imp fun x => Nat.ne_of_lt x, fun j a k x e e' => ?_⟩
    obtain ⟨key, k', x', e2, hk, ha⟩ := hG.pairs j a e
    rw [e'] at e2; cases e2
    exact ⟨key, hk, ha⟩
  case go =>
    rintro vs s5 h5 ⟨as, rfl, hl, hnd, hpr⟩
    have hP5 : IsPairs knd s5 as kvs := ⟨hl, hnd, hpr⟩
    have hn' : (as.map Value.ref).Nodup := List.pairwise_map.mpr (hnd.imp fun e e' => e (by injection e'))
    have F5 := F4.step0 h5
    have hf5 := hf4.step0 h5
    have at_ : ∀ (i : Nat) (v : Value), (as.map Value.ref)[i]? = some v → ∃ a, v = .ref a ∧ as[i]? = some a := fun i v e => by
      rw [List.getElem?_map] at e
      cases e2 : as[i]? with
      | none => rw [e2] at e; cases e
      | some a => rw [e2] at e; cases e; exact ⟨a, rfl, rfl⟩
    have kval : ∀ i v, (as.map Value.ref)[i]? = some v → byPlace (as.map Value.ref) (fun j => (κs j).lowIf b) (.i 0) v = (κs i).lowIf b := fun i v e => byPlace_at hn' e
    have lt_ : ∀ (i : Nat) (v : Value), (as.map Value.ref)[i]? = some v → i < kvs.length := fun i v e => by
      have := (List.getElem?_eq_some_iff.mp e).1
      rw [List.length_map, hl] at this; exact this
    have intk : ∀ v ∈ as.map Value.ref, (byPlace (as.map Value.ref) (fun j => (κs j).lowIf b) (.i 0) v).int = ib := fun v hv => by
      obtain ⟨i, e⟩ := List.getElem?_of_mem hv
      rw [kval i v e, Key.low_int]
      exact hib i (lt_ i v e)
    have thing : ∀ (i : Nat) (a : Addr), as[i]? = some a → ∃ key x y, IsT s5 a [key, x] ∧ [key, x][p]? = some y ∧ IsThing y (κs i) := fun i a e => by
      have hi : i < kvs.length := by rw [← hl]; exact (List.getElem?_eq_some_iff.mp e).1
      obtain ⟨key, hk, ht⟩ := hpr i a kvs[i].1 kvs[i].2 e (by simp [hi])
      rcases hp with rfl | rfl
      · exact ⟨key, _, key, ht, rfl, hκ i _ kvs[i].2 key key (by simp [hi]) hk rfl⟩
      · exact ⟨key, _, _, ht, rfl, hκ i _ kvs[i].2 key _ (by simp [hi]) hk rfl⟩
    refine ⟨byPlace (as.map Value.ref) (fun j => (κs j).lowIf b) (.i 0), by simp [hl]; exact hz, KeyFn.g ⟨hf5.fn, fun v hv A' s' Q' R' st' k => ?_⟩, fun v hv => ?_, fun v hv u hu => same_of_int (by rw [intk v hv, intk u hu]), fun r s' st' hr nr => ?_⟩
    · obtain ⟨i, e⟩ := List.getElem?_of_mem hv
      obtain ⟨a, rfl, ea⟩ := at_ i v e
      obtain ⟨key, x, y, ht, hy, hth⟩ := thing i a ea
      refine c_sortf R' (KP.step0 (F5.K X) st') (hf5.step0 st') (cc := celA 18 263 w.params L "case_sensitive") (cp := celA 18 263 w.params L "pos") (by kernel_rfl) (by kernel_rfl) (isCell_step0 cc4 (h5.trans st')) (isCell_step0 cp4 (h5.trans st')) (ht.step0 st') hy hth fun r' s'' st'' hk' => k r' s'' st'' ?_
      rw [kval i _ e]; exact hk'
    · obtain ⟨i, e⟩ := List.getElem?_of_mem hv
      obtain ⟨a, rfl, ea⟩ := at_ i v e
      obtain ⟨key, x, y, ht, hy, hth⟩ := thing i a ea
      rw [kval i _ e]; exact hth.one b
    · refine h r as s' (F5.since.trans st') ?_ (hP5.step0 st') (F5.newAt nr)
      have e2 : as.map Value.ref = (List.range kvs.length).map fun j => .ref (as.getD j 0) := by
        apply List.ext_getElem (by simp [hl])
        intro i h1 h2
        have : i < as.length := by simpa using h1
        simp [this]
      rw [e2] at hr
      rw [lawOrder_places (g := fun j => (κs j).lowIf b)] at hr
      · exact hr
      · intro i hi
        rw [← e2]
        exact kval i _ (by rw [e2]; simp [hi])
theorem c_dictsort {d : Addr} {kvs : List (K × Value)} {p : Nat} {by_ : Value} {rev b ib : Bool} {κs : Nat → Key} {args : Args} {Q : Value → Shared → Prop} (R : Rm A 630 930) (X : (KP w.params).In s.heap) (TB : TabsOk s.heap)
    (hd : s.heap.DictOf knd d kvs) (hdS : (d == sysModules) = false) (hz : kvs.length < 64) (hby : ∃ t, (p = 0 ∧ by_ = .str "key" t) ∨ (p = 1 ∧ by_ = .str "value" t))
    (hκ : ∀ (j : Nat) (k : K) (x key y : Value), kvs[j]? = some (k, x) → knd.is k key = true → [key, x][p]? = some y → IsThing y (κs j)) (hib : ∀ j, j < kvs.length → (κs j).int = ib)
    (hbind : peek (KP w.params) ⟨prog, w.params⟩ (bindArgs (fdAt w.params 263) args) = some [(("value" : Str), Value.ref d), ("case_sensitive", .bool b), ("by", by_), ("reverse", .bool rev)])
    (h : ∀ r as s', Step0 s s' → IsL s' r ((placeOrder (fun j => (κs j).lowIf b) rev kvs.length).map fun j => .ref (as.getD j 0)) → IsPairs knd s' as kvs → s.heap.get? r = none → Q (.ref r) s') :
    wpAny (model prog w) A (call (.ref 263) args.pos args.kw) Q NoE s := by
  refine call_txt 18 263 X (Nat.lt_of_le_of_lt R.depth (by decide)) hbind (fun L => List.forall_mem_cons.mpr ⟨.inl (by kernel_rfl), List.forall_mem_cons.mpr ⟨.inr ⟨by kernel_rfl, by kernel_rfl⟩, List.forall_mem_cons.mpr ⟨.inl (by kernel_rfl), List.forall_mem_cons.mpr ⟨.inl (by kernel_rfl), List.forall_mem_nil _⟩⟩⟩⟩) (fun L hL s₁ F0 h01 hn => ?_)
  have R1 := R.deeper (EV 18 263 w.params L)
  have F : Run (EV 18 263 w.params L) s _ _ s₁ := ⟨F0, h01, hn⟩
  have nd : ¬ Hot (EV 18 263 w.params L) d := fun hh => by
    obtain ⟨o, e⟩ := dictOf_some hd
    have := hn d hh
    rw [e] at this; cases this
  obtain ⟨tb, hby⟩ := hby
  have hbk : IsKey by_ (.s (if p = 0 then [107, 101, 121] else [118, 97, 108, 117, 101])) := by
    rcases hby with ⟨rfl, rfl⟩ | ⟨rfl, rfl⟩
    · exact ⟨_, tb, rfl, by kernel_rfl⟩
    · exact ⟨_, tb, rfl, by kernel_rfl⟩
  refine wpAny_execs_cons (wpAny_If (wpAny_isTrue_Compare1 (g_ld F (v := by_) (by kernel_rfl) (g_str fun t2 s2 h2 => cmp_eq (b := .s [107, 101, 121]) hbk ⟨_, t2, rfl, by kernel_rfl⟩ rfl (wpAny_truthy_bool ?_)))))
  have F2 := F.step0 h2
  rcases hby with ⟨rfl, rfl⟩ | ⟨rfl, rfl⟩
  · rw [show decide (Key.s (if 0 = 0 then [107, 101, 121] else [118, 97, 108, 117, 101]) = Key.s [107, 101, 121]) = true from by decide]
    simp only [if_true]
    refine wpAny_execs_cons (wpAny_Assign_Name (g_int fun t3 s3 h3 => g_stc (F2.step0 h3) (c := celA 18 263 w.params L "pos") (by kernel_rfl) fun s4 F4 h4 => ?_))
    refine wpAny_execs_nil ?_
    exact c_dict_tail (t := t3) R1 X F4 (F4.since.tab TB) (.inl rfl) (by kernel_rfl) (by kernel_rfl) (by kernel_rfl) (by kernel_rfl) (dictOf_step (dictOf_step hd F2.since id) (h3.up.trans h4) nd) nd hdS hz hκ hib h
  · rw [show decide (Key.s (if 1 = 0 then [107, 101, 121] else [118, 97, 108, 117, 101]) = Key.s [107, 101, 121]) = false from by decide]
    simp only [Bool.false_eq_true, if_false]
    refine wpAny_execs_cons (wpAny_If (wpAny_isTrue_Compare1 (g_ld F2 (v := .str "value" tb) (by kernel_rfl) (g_str fun t3 s3 h3 => cmp_eq (a := .s [118, 97, 108, 117, 101]) (b := .s [118, 97, 108, 117, 101]) ⟨_, tb, rfl, by kernel_rfl⟩ ⟨_, t3, rfl, by kernel_rfl⟩ rfl (wpAny_truthy_bool ?_)))))
    rw [show decide (Key.s [118, 97, 108, 117, 101] = Key.s [118, 97, 108, 117, 101]) = true from by decide]
    simp only [if_true]
    have F3 := F2.step0 h3
    refine wpAny_execs_cons (wpAny_Assign_Name (g_int fun t4 s4 h4 => g_stc (F3.step0 h4) (c := celA 18 263 w.params L "pos") (by kernel_rfl) fun s5 F5 h5 => ?_))
    refine wpAny_execs_nil (wpAny_execs_nil ?_)
    exact c_dict_tail (t := t4) R1 X F5 (F5.since.tab TB) (.inr rfl) (by kernel_rfl) (by kernel_rfl) (by kernel_rfl) (by kernel_rfl) (dictOf_step (dictOf_step hd F3.since id) (h4.up.trans h5) nd) nd hdS hz hκ hib h
end
end Mine
end
section
open PySem PySem.W PySem.W.X PyProof.Rows
namespace Mine
/-! texts as lists of codes -/
def Tx (l : List Nat) : Str := ⟨l.toArray⟩
theorem Tx_app (a b : List Nat) : Tx a ++ Tx b = Tx (a ++ b) := by
  show (⟨a.toArray ++ b.toArray⟩ : Str) = ⟨(a ++ b).toArray⟩
  simp
theorem Tx_len (a : List Nat) : (Tx a).length = a.length := by simp [Tx, Str.length]
def jn (sep : List Nat) : List (List Nat) → List Nat
  | [] => []
  | [x] => x
  | x :: y :: r => x ++ sep ++ jn sep (y :: r)
theorem jn_Tx (sep : List Nat) : ∀ ls : List (List Nat), Txt.join (Tx sep) (ls.map Tx) = Tx (jn sep ls) := by
  have : ∀ ls : List (List Nat), Str.join (Tx sep) (ls.map Tx) = Tx (jn sep ls) := by
    intro ls
    induction ls with
    | nil => rfl
    | cons x r ih =>
      cases r with
      | nil => rfl
      | cons y r =>
        show Tx x ++ Tx sep ++ Str.join (Tx sep) ((y :: r).map Tx) = _
        rw [ih, Tx_app, Tx_app]; rfl
  intro ls
  show Builtin.Str.glued (Tx sep) (ls.map Tx) = _
  rw [StrLaws.glued_eq_join]
  exact this ls
/-! lines -/
def flatL (ls : List (List Nat)) : List Nat := ls.flatMap (· ++ [10])
theorem flat_jn : ∀ ls : List (List Nat), ls ≠ [] → jn [10] ls ++ [10] = flatL ls
  | [x], _ => by simp [jn, flatL]
  | x :: y :: r, _ => by
    have := flat_jn (y :: r) (by simp)
    show x ++ [10] ++ jn [10] (y :: r) ++ [10] = _
    rw [List.append_assoc, this]
    simp [flatL]
def noBreak (l : List Nat) : Prop := ∀ c ∈ l, Unicode.isLineBreak c = false
def spansFrom (o : Nat) : List (List Nat) → List (Nat × Nat × Nat)
  | [] => []
  | l :: r => (o, o + l.length, o + l.length + 1) :: spansFrom (o + l.length + 1) r
def lineStep (x : Str) (i : Nat) (r : Array (Nat × Nat × Nat) × Nat) : Array (Nat × Nat × Nat) × Nat :=
  if (decide (r.2 ≤ i) && Unicode.isLineBreak (x.cps.getD i 0)) = true then (r.1.push (r.2, i, if (x.cps.getD i 0 == 13 && x.cps[i + 1]? == some 10) = true then i + 2 else i + 1), if (x.cps.getD i 0 == 13 && x.cps[i + 1]? == some 10) = true then i + 2 else i + 1) else r
theorem lineSpans_eq (x : Str) : Builtin.Str.lineSpans x = (if ((List.range x.length).foldl (fun r i => lineStep x i r) (#[], 0)).2 < x.length then ((List.range x.length).foldl (fun r i => lineStep x i r) (#[], 0)).1.push (((List.range x.length).foldl (fun r i => lineStep x i r) (#[], 0)).2, x.length, x.length) else ((List.range x.length).foldl (fun r i => lineStep x i r) (#[], 0)).1).toList := by
  unfold Builtin.Str.lineSpans
  have e : ∀ (l : List Nat) (r : Array (Nat × Nat × Nat) × Nat), (forIn (m := Id) l r fun i r =>
      if (decide (r.2 ≤ i) && Unicode.isLineBreak (x.cps.getD i 0)) = true then
        pure (ForInStep.yield ((r.1.push (r.2, i, if (x.cps.getD i 0 == 13 && x.cps[i + 1]? == some 10) = true then i + 2 else i + 1), if (x.cps.getD i 0 == 13 && x.cps[i + 1]? == some 10) = true then i + 2 else i + 1) : Array (Nat × Nat × Nat) × Nat))
      else
        pure (ForInStep.yield ((r.1, r.2) : Array (Nat × Nat × Nat) × Nat))) = pure (l.foldl (fun r i => lineStep x i r) r) := by
    intro l
    induction l with
    | nil => intro r; rfl
    | cons a l ih =>
      intro r
      rw [List.forIn_cons, List.foldl_cons, ← ih]
      unfold lineStep
      by_cases h : (decide (r.2 ≤ a) && Unicode.isLineBreak (x.cps.getD a 0)) = true
      · simp only [h, if_true]; rfl
      · simp only [h]; rfl
  simp only [Std.Legacy.Range.forIn_eq_forIn_range', Std.Legacy.Range.size]
  have er : List.range' 0 ((x.length - 0 + 1 - 1) / 1) = List.range x.length := by
    rw [List.range_eq_range']; congr 1; omega
  rw [er, e]
  rfl
theorem getD_at (l m r : List Nat) {o j : Nat} (ho : o = l.length) (hj : j < m.length) : (Tx (l ++ m ++ r)).cps.getD (o + j) 0 = m[j] := by
  subst ho
  unfold Tx
  rw [Array.getD_eq_getD_getElem?, List.getElem?_toArray, List.append_assoc, List.getElem?_append_right (by omega), List.getElem?_append_left (by omega)]
  simp [hj]
theorem lineStep_no {x : Str} {r : Array (Nat × Nat × Nat) × Nat} {i : Nat} (h : Unicode.isLineBreak (x.cps.getD i 0) = false) : lineStep x i r = r := by
  unfold lineStep
  rw [h, Bool.and_false]
  rfl
theorem fold_no {x : Str} {r : Array (Nat × Nat × Nat) × Nat} : ∀ (n o : Nat), (∀ j, j < n → Unicode.isLineBreak (x.cps.getD (o + j) 0) = false) → (List.range' o n).foldl (fun r i => lineStep x i r) r = r
  | 0, _, _ => rfl
  | n + 1, o, h => by
    rw [List.range'_succ, List.foldl_cons, lineStep_no (by simpa using h 0 (by omega))]
    exact fold_no n (o + 1) fun j hj => by have := h (j + 1) (by omega); rwa [← Nat.add_assoc, Nat.add_right_comm] at this
theorem fold_flat : ∀ (ls : List (List Nat)) (pre : List Nat) (acc : Array (Nat × Nat × Nat)), (∀ l ∈ ls, noBreak l) →
    (List.range' pre.length (flatL ls).length).foldl (fun r i => lineStep (Tx (pre ++ flatL ls)) i r) (acc, pre.length) = (acc ++ (spansFrom pre.length ls).toArray, pre.length + (flatL ls).length)
  | [], pre, acc, _ => by simp [flatL, spansFrom]
  | l :: r, pre, acc, h => by
    have e1 : flatL (l :: r) = l ++ [10] ++ flatL r := by simp [flatL]
    have e2 : pre ++ flatL (l :: r) = (pre ++ (l ++ [10])) ++ flatL r := by rw [e1]; simp
    have len : (flatL (l :: r)).length = l.length + (1 + (flatL r).length) := by rw [e1]; simp; omega
    have ih := fold_flat r (pre ++ (l ++ [10])) (acc.push (pre.length, pre.length + l.length, pre.length + l.length + 1)) fun q hq => h q (.tail _ hq)
    rw [← e2] at ih
    have lenp : (pre ++ (l ++ [10])).length = pre.length + l.length + 1 := by simp; omega
    rw [lenp] at ih
    have r1 : List.range' pre.length (l.length + (1 + (flatL r).length)) = List.range' pre.length l.length ++ (List.range' (pre.length + l.length) 1 ++ List.range' (pre.length + l.length + 1) (flatL r).length) := by
      rw [List.range'_append_1, List.range'_append_1]
    rw [len, r1, List.foldl_append, fold_no (r := (acc, pre.length))]
    · rw [List.foldl_append]
      have at10 : (Tx (pre ++ flatL (l :: r))).cps.getD (pre.length + l.length) 0 = 10 := by
        have := getD_at pre (l ++ [10]) (flatL r) (o := pre.length) (j := l.length) rfl (by simp)
        rw [← List.append_assoc] at e2
        rw [e2]
        simpa using this
      have st : lineStep (Tx (pre ++ flatL (l :: r))) (pre.length + l.length) (acc, pre.length) = (acc.push (pre.length, pre.length + l.length, pre.length + l.length + 1), pre.length + l.length + 1) := by
        unfold lineStep
        rw [at10]
        have e3 : (decide ((acc, pre.length).2 ≤ pre.length + l.length) && Unicode.isLineBreak 10) = true := by
          rw [show Unicode.isLineBreak 10 = true from by kernel_rfl]; simp
        rw [if_pos e3]
        rfl
      rw [show List.range' (pre.length + l.length) 1 = [pre.length + l.length] from rfl, List.foldl_cons, List.foldl_nil, st, ih]
      simp [spansFrom]
      omega
    · intro j hj
      have := getD_at pre l ([10] ++ flatL r) (o := pre.length) (j := j) rfl hj
      have e4 : pre ++ flatL (l :: r) = pre ++ l ++ ([10] ++ flatL r) := by rw [e1]; simp
      rw [e4, this]
      exact h l (.head _) _ (List.getElem_mem hj)
theorem spans_flat {ls : List (List Nat)} (h : ∀ l ∈ ls, noBreak l) : Builtin.Str.lineSpans (Tx (flatL ls)) = spansFrom 0 ls := by
  have := fold_flat ls [] #[] h
  simp only [List.nil_append, List.length_nil, Nat.zero_add] at this
  rw [lineSpans_eq, Tx_len, List.range_eq_range', this]
  simp
theorem cuts_flat {ls : List (List Nat)} (h : ∀ l ∈ ls, noBreak l) : ∀ (pre : List Nat), ((spansFrom pre.length ls).map fun (p : Nat × Nat × Nat) => Builtin.Str.strSub (Tx (pre ++ flatL ls)) p.1 p.2.1) = ls.map Tx := by
  clear h
  induction ls with
  | nil => intro pre; rfl
  | cons l r ih =>
    intro pre
    have e1 : flatL (l :: r) = l ++ [10] ++ flatL r := by simp [flatL]
    have e2 : pre ++ flatL (l :: r) = (pre ++ (l ++ [10])) ++ flatL r := by rw [e1]; simp
    have := ih (pre ++ (l ++ [10]))
    rw [← e2] at this
    have lenp : (pre ++ (l ++ [10])).length = pre.length + l.length + 1 := by simp; omega
    rw [lenp] at this
    rw [spansFrom, List.map_cons, List.map_cons, this]
    congr 1
    unfold Builtin.Str.strSub Tx
    rw [e1]
    simp
theorem lines_flat {ls : List (List Nat)} (h : ∀ l ∈ ls, noBreak l) : linesOf (Tx (flatL ls)) = ls.map Tx := by
  have := cuts_flat h []
  simp only [List.nil_append, List.length_nil] at this
  unfold linesOf lineCuts
  rw [spans_flat h, List.map_map, ← this]
  rfl
theorem spans_len (o : Nat) : ∀ ls : List (List Nat), (spansFrom o ls).length = ls.length
  | [] => rfl
  | l :: r => by simp [spansFrom, spans_len]
theorem cuts_ne {ls : List (List Nat)} (h : ∀ l ∈ ls, noBreak l) : (lineCuts (Tx (flatL ls)) == [(0, (Tx (flatL ls)).length)]) = false := by
  have e : lineCuts (Tx (flatL ls)) = (spansFrom 0 ls).map fun p => (p.1, p.2.1) := by
    unfold lineCuts
    rw [spans_flat h]
    rfl
  rw [e, Tx_len]
  cases ls with
  | nil => rfl
  | cons l r =>
    cases r with
    | nil => simp [spansFrom, flatL]
    | cons y r => simp [spansFrom]
end Mine
end
section
open PySem PySem.W PySem.W.X PyProof.Rows
namespace Mine
/-! generator expressions over a list -/
theorem GensOk.push {g : Array GenState} {x : GenState} (h : x.bare = true) : GensOk g (g.push x) := by
  refine ⟨by simp, fun i y e => ?_, fun i y hi e => ?_⟩
  · have lt := (Array.getElem?_eq_some_iff.mp e).1
    rw [Array.getElem?_push, if_neg (by omega)]
    exact e
  · rw [Array.getElem?_push] at e
    split at e
    · cases e; exact h
    · have lt := (Array.getElem?_eq_some_iff.mp e).1
      omega
theorem passing_all (n : Nat) : passing (fun _ => true) n 0 = List.range n := by simp [passing]
section
variable {prog : Program} {w : World} {A : Around} {s : Shared} {env : Env}
theorem op_gencode {p : Spot} {c : Addr} {pos : Pos} {scope : Scope} {Q : Value → Shared → Prop} (TB : TabsOk s.heap) (hp : p ∈ spots) (hl : pos.line = p.line) (hc : pos.col = p.col)
    (uniq : ∀ q ∈ spots, q.tab = p.tab → q.line = p.line → q.col = p.col → q.qual = p.qual) (C : CodeHd s.heap c p.tab) (hcode : env.code = .ref c)
    (h : ∀ cv s', Step0 s s' → Q cv s') :
    wpAny (model prog w) A (genexprCode env pos p.qual scope) Q NoE s := by
  obtain ⟨ps, hP, ht, hcv⟩ := TB p hp
  have epos : codeAmong p.pos ps.toList = codeAmong pos ps.toList := by
    unfold Spot.pos
    rw [← hl, ← hc]
    exact codeAmong_pos pos _
  rw [epos] at hcv
  cases hf : codeAmong pos ps.toList with
  | some cv =>
    obtain ⟨o, vs, file, tf, flags, tg, inF, text, tt, op, ho, hd, h11, h2, h7, h9, h10, hop, hpd, htr, hne⟩ := C.code hP ht
    unfold genexprCode codeAt
    rw [hcode, if_neg (show ¬ ((Value.ref c == Value.none) = true) from Bool.false_ne_true)]
    refine wpAny_bind (wpAny_fieldsOf ho hd ?_)
    rw [h11]
    refine wpAny_bind (wpAny_fieldsOf hop hpd ?_)
    rw [hf]
    exact wpAny_pure (h cv s (Step.refl _ _))
  | none =>
    refine wpAny_genexprCodeX hcode (C.code hP ht) (C.tab hP) hf fun c' h' tk hx hge hlt _ hrec htb hnew => ?_
    have hP' := htb.2
    obtain ⟨P', _, _, ⟨oc, vs, e1, e2, e3, e4⟩, _⟩ := hnew
    have hcat : CodeAt h' (.ref c') p.qual := by
      obtain ⟨c₂, oc', vs', t, q1, q2, q3, q4⟩ := hrec
      cases q1
      exact ⟨c', oc', vs', t, rfl, q2, by rw [e1] at q2; cases q2; exact e2, q3, q4⟩
    refine h _ _ ⟨fun b o e n _ => hx b o (fun q => ?_) e, fun b o e _ => ?_, fun b o e nt _ => hx b o (fun q => nt ⟨p, hp, q.symm⟩) e, rfl, GensOk.refl _, fun tb q hq => ?_⟩
    · rw [q, hP] at e; cases e; cases n
    · by_cases q : b = p.tab
      · exact ⟨_, q ▸ hP'⟩
      · exact ⟨o, hx b o q e⟩
    · obtain ⟨qs, eq, tq, cq⟩ := tb q hq
      have keepCode : ∀ {cv r}, CodeAt s.heap cv r → CodeAt h' cv r := fun ⟨c, oc, vs, t, e, g, cl, d, v⟩ => ⟨c, oc, vs, t, e, hx _ _ (fun z => by
        rw [z, hP] at g; cases g; cases cl) g, cl, d, v⟩
      by_cases hqt : q.tab = p.tab
      · rw [hqt, hP] at eq
        cases eq
        refine ⟨_, hqt ▸ hP', by simpa using TriplesOk_snoc _ _ _ _ ht, fun cv hcv' => ?_⟩
        rw [Array.toList_append] at hcv'
        rcases codeAmong_app pos q.pos (.ref c') _ ht cv hcv' with old | ⟨rfl, a, b⟩
        · exact keepCode (cq cv old)
        · rw [uniq q hq hqt (a.symm.trans hl) (b.symm.trans hc)]
          exact hcat
      · exact ⟨qs, hx _ _ hqt eq, tq, fun cv hcv' => keepCode (cq cv hcv')⟩
/-- a generator that gives n things, made since sB -/
def GenJ (prog : Program) (w : World) (A : Around) (sB : Shared) (a : Addr) (n : Nat) (F : Nat → Value → Prop) (s : Shared) : Prop :=
  ∃ fp wr g St sM, WalksS prog w A.in4 a fp wr (GenOnlyQ g) n (fun j y => ∃ i, (List.range n)[j]? = some i ∧ F i y) St ∧ St 0 s ∧ (∀ i s', St i s' → s'.TypeIs (.ref a) "generator") ∧ a ∈ fp ∧ (∀ b ∈ fp, b < s.heap.objs.size) ∧ sB.gens.size ≤ g ∧
    Step0 sB sM ∧ (∀ b o, sM.heap.get? b = some o → s.heap.get? b = some o) ∧ ∀ b ∈ wr, sB.heap.get? b = none ∧ ∀ o, sM.heap.get? b = some o → codeish o = false
theorem op_genexp {elt iter : Expr} {x : Str} {px pos : Pos} {scope : Scope} {p : Spot} {c : Addr} {Q : Value → Shared → Prop} {F : List Value → Nat → Value → Prop} (hh : A.handled = none) (hroom : A.depth < recursionLimit) (X : (KP w.params).In s.heap) (TB : TabsOk s.heap) (hp : p ∈ spots) (hl : pos.line = p.line) (hc : pos.col = p.col)
    (uniq : ∀ q ∈ spots, q.tab = p.tab → q.line = p.line → q.col = p.col → q.qual = p.qual) (C : CodeHd s.heap c p.tab) (hcode : env.code = .ref c) (hqual : env.qual ++ "<genexpr>" = p.qual) (hg : env.globals = mainGlobals) (hb : env.builtins = builtinsNs) (hok : clOk scope.names env.cells = true)
    (hco : scope.isCoroutine = false) (h0 : scope.names.lookup (".0" : Str) = some NameKind.local) (hx : scope.names.lookup x = some .local) (hkind : scope.kind = .function) (hcell : ∀ y ∈ scope.names, y.2 ≠ .cell)
    (h : wpAny (model prog w) A (eval iter env) (fun xv s₁ => ∃ l vs, xv = .ref l ∧ Step0 s s₁ ∧ IsL s₁ l vs ∧ vs.length ≤ 1000 ∧
      (∀ (A' : Around) (E' : Value → Shared → Prop) (Cf : Addr) (code : Value) (i : Nat) (v : Value) (s₂ : Shared) (m₂ : Str → Option Value), A'.handled = none → vs[i]? = some v → s₂.heap.Ns Cf m₂ → m₂ x = some v → (∀ b o, s₁.heap.get? b = some o → isTab o = false → s₂.heap.get? b = some o) →
        wpAny (model prog w) A' (eval elt (genEnv scope (clOf scope env) Cf code builtinsNs env)) (fun y s₃ => F vs i y ∧ Keeps s₂ s₃) E' s₂) ∧
      ∀ a s₅, Step0 s₁ s₅ → GenJ prog w A s₁ a vs.length (F vs) s₅ → Q (.ref a) s₅) NoE s)
    (hs : ∀ x, genFold iter env x = pure x) :
    wpAny (model prog w) A (eval (.GeneratorExp elt [⟨.Name x px, iter, [], 0⟩] scope pos) env) Q NoE s := by
  refine wpAny_GeneratorExp_walksQ hh hco (closure_eq hok) hcell h0 hx hkind hroom (wpAny_mono h (fun xv s₁ q => ?_) fun _ _ e => e) hs
  obtain ⟨l, vs, rfl, h1, hl1, hz, helt, hQ⟩ := q
  refine wpAny_pyIter_list hl1.is ?_
  have st2 : Step0 s₁ { s₁ with heap := s₁.heap.push { cls := .type "list_iterator", data := .fields #[.ref l, .int 0 0] } } := Step0.push _ _
  have nI : s₁.heap.get? s₁.heap.objs.size = none := Heap.get?_none_of_le (Nat.le_refl _)
  have hI2 : (s₁.heap.push { cls := .type "list_iterator", data := .fields #[.ref l, .int 0 0] }).get? s₁.heap.objs.size = some { cls := .type "list_iterator", data := .fields #[.ref l, .int 0 0] } := Heap.get?_push_size _ rfl
  generalize hg2 : ({ s₁ with heap := s₁.heap.push { cls := .type "list_iterator", data := .fields #[.ref l, .int 0 0] } } : Shared) = s₂ at st2
  have hI2 : s₂.heap.get? s₁.heap.objs.size = some { cls := .type "list_iterator", data := .fields #[.ref l, .int 0 0] } := by rw [← hg2]; exact hI2
  generalize s₁.heap.objs.size = I at nI hI2 ⊢
  have s02 := h1.trans st2
  have X2 := KP.step0 X s02
  refine ⟨noLimit X2, ?_⟩
  rw [hqual]
  refine op_gencode (s02.tab TB) hp hl hc uniq (CodeHd_step0 C s02) hcode fun code s₃ h3 => ?_
  have X3 := KP.step0 X2 h3
  rw [hg, hb]
  refine (Looks.of_peek (M := model prog w) X3 (show peek (KP w.params) ⟨prog, w.params⟩ (builtinsFor mainGlobals builtinsNs) = some builtinsNs by kernel_rfl)).here ?_
  have lI : l ≠ I := fun e => by
    obtain ⟨n, e'⟩ := hl1
    rw [e, nI] at e'; cases e'
  have h13 := st2.trans h3
  have hI3 : s₃.heap.get? I = some { cls := .type "list_iterator", data := .fields #[.ref l, .int 0 0] } := h3.at hI2
  have hl3 := hl1.step0 h13
  have csLt : cStatics < s₃.heap.objs.size := (let ⟨_, hn, _⟩ := noLimit X3; hn.lt)
  refine ⟨I, [I, l], [I], vs.toArray.size, _, _, fun _ => true, F vs, rfl, fun A' hA => Walks.list hA _ _ lI vs.toArray, ⟨⟨_, hI3, rfl, rfl⟩, hl3.is⟩, ?_, noLimit X3, ?_, ?_, ?_⟩
  · intro b hb
    rcases List.mem_cons.mp hb with rfl | hb
    · exact Heap.lt_size hI3
    · rcases List.mem_cons.mp hb with rfl | hb
      · obtain ⟨o, e⟩ := hl3.some; exact Heap.lt_size e
      · cases hb
  · intro hb
    rcases List.mem_cons.mp hb with e | hb
    · obtain ⟨_, hn, _⟩ := noLimit (KP.step0 X h1)
      obtain ⟨o, es, ep, eo, _⟩ := hn
      rw [e, nI] at eo; cases eo
    · cases hb
  · intro href hhref
    refine ⟨fun A' E' i v s₄ m₂ hA hP hn hm hk => wpAny_pure ⟨rfl, s₄.heap, s₄.toks, rfl, fun _ _ e => e⟩, fun A' E' i v s₄ m₂ hA hP _ hn hm hk => ?_⟩
    refine helt A' E' _ code i v s₄ m₂ hA (by simpa using hP) hn hm fun b o e nt => ?_
    have e3 := Step0.at h13 e nt
    refine hk b (List.mem_range.mpr (Heap.lt_size e3)) (fun hb => ?_) o (hhref b o e3)
    rcases List.mem_cons.mp hb with e' | hb
    · rw [e', nI] at e; cases e
    · cases hb
  · intro a h₅ tk gs hgb hag hsz₅ hk₅ W hat
    have en : (passing (fun _ => true) vs.toArray.size 0).length = vs.length := by rw [passing_all]; simp
    rw [en, passing_all, List.size_toArray] at W
    have st5 : Step0 s₃ { s₃ with gens := s₃.gens.push gs, toks := tk, heap := h₅ } := ⟨fun b o e _ _ => hk₅ b o e, fun b o e _ => ⟨o, hk₅ b o e⟩, fun b o e _ _ => hk₅ b o e, rfl, GensOk.push hgb, fun x => x.keep fun b o e _ => hk₅ b o e⟩
    refine hQ a _ (h13.trans st5) ⟨_, _, _, _, s₃, W, by rw [List.size_toArray] at hat; exact hat, fun i s' st => st.1.typeIs, List.mem_cons_self, ?_, h13.gens.1, h13, hk₅, ?_⟩
    · intro b hb
      show b < h₅.objs.size
      rw [hsz₅]
      rcases List.mem_cons.mp hb with rfl | hb
      · exact Nat.lt_succ_self _
      · rcases List.mem_cons.mp hb with rfl | hb
        · exact Nat.lt_succ_of_lt hag
        · exact Nat.lt_succ_of_lt (Nat.lt_trans (List.mem_range.mp hb) hag)
    · intro b hb
      rcases List.mem_cons.mp hb with rfl | hb
      · have n3 : s₃.heap.get? s₃.heap.objs.size = none := Heap.get?_none_of_le (Nat.le_refl _)
        exact ⟨Step0.notThere h13 n3, fun o e => by cases n3.symm.trans e⟩
      · rcases List.mem_cons.mp hb with rfl | hb
        · exact ⟨nI, fun o e => by rw [hI3] at e; cases e; rfl⟩
        · cases hb
theorem op_join_gen {sB : Shared} {a : Addr} {n : Nat} {F : Nat → Value → Prop} {sep : List Nat} {t : Tok} {tx : Nat → List Nat} {Q : Value → Shared → Prop} (J : GenJ prog w A sB a n F s) (hs : Step0 sB s) (hF : ∀ i y, F i y → ∃ t, y = .str (Tx (tx i)) t)
    (hn : n ≤ 1000) (hl : ∀ i, (tx i).length ≤ 1000) (hsep : sep.length ≤ 1000) (h : ∀ t' s', Step0 sB s' → Q (.str (Tx (jn sep ((List.range n).map tx))) t') s') : wpAny (model prog w) A (call (.builtin "str.join") [.str (Tx sep) t, .ref a]) Q NoE s := by
  obtain ⟨fp, wr, g, St, sM, W, hst, hT, ha, hfp, hgg, hM, hMk, hwr⟩ := J
  refine SC.joinGen W.in4_2 hT hst hfp ha (fun j v hv => let ⟨i, _, e⟩ := hv; let ⟨u, e⟩ := hF i v e; ⟨_, u, e⟩) (fun s' lt hm hacc => ?_) (Nat.le_trans hn (by decide))
  have hlt : lt.map (·.1) = ((List.range n).map tx).map Tx := by
    apply List.ext_getElem?
    intro j
    have hsz : lt.length = n := by simpa [strValues] using hacc.1
    by_cases hj : j < n
    · have hj' : j < lt.length := hsz ▸ hj
      obtain ⟨i, hi, hv⟩ := hacc.2 j (.str lt[j].1 lt[j].2) (by simp [strValues, List.getElem?_eq_getElem hj'])
      obtain ⟨u, hv⟩ := hF i _ hv
      have : i = j := by simpa [hj] using hi.symm
      subst this
      injection hv with h1 _
      simp [List.getElem?_eq_getElem hj', hj, h1]
    · rw [List.getElem?_eq_none (by simpa [hsz] using Nat.le_of_not_lt hj), List.getElem?_eq_none (by simpa using Nat.le_of_not_lt hj)]
  rw [hlt]
  refine ⟨?_, fun t' k => ?_⟩
  · unfold JoinOk
    rw [Bool.not_eq_true']
    refine StrLaws.joinFits (B := 1000) (fun y hy => ?_) ?_
    · obtain ⟨l, hl', rfl⟩ := List.mem_map.mp hy
      obtain ⟨i, _, rfl⟩ := List.mem_map.mp hl'
      rw [Tx_len]; exact hl i
    · simp only [List.length_map, List.length_range, Tx_len]
      have := Nat.mul_le_mul hn hsep
      omega
  · rw [jn_Tx]
    have out : ∀ b o, sB.heap.get? b = some o → b ∉ wr := fun b o e hb => by
      rw [(hwr b hb).1] at e; cases e
    refine h t' _ ((Step.trans (X := fun _ => False) (s' := s') ⟨fun b o e nt _ => hm.heap b o (out b o e) (hs.at e nt), fun b o e _ => ?_, fun b o e t _ => hm.heap b o (out b o e) (hs.tabs b o e t id), hm.os.trans hs.os, ?_, fun x => ?_⟩ (Step0.toks s' k)))
    · obtain ⟨o', e'⟩ := hs.there b o e id
      exact ⟨o', hm.heap b o' (out b o e) e'⟩
    · obtain ⟨z1, z2, z3⟩ := hs.gens
      rcases hm.gens with e | ⟨⟨e1, e2⟩, e3⟩
      · rw [e]; exact ⟨z1, z2, z3⟩
      · refine ⟨by rw [e1]; exact z1, fun i y e => ?_, fun i y hi e => ?_⟩
        · have lt := (Array.getElem?_eq_some_iff.mp e).1
          rw [e2 i (by omega)]
          exact z2 i y e
        · by_cases ig : i = g
          · subst ig; exact e3 y e
          · rw [e2 i ig] at e
            exact z3 i y hi e
    · exact (hM.tab x).keep fun b o e c => hm.heap b o (fun hb => by
        have := (hwr b hb).2 o e
        rw [this] at c; cases c) (hMk b o e)
end
end Mine
end
section
open PySem PySem.W PySem.W.X PyProof.Rows
namespace Mine
/-! operations on texts -/
def IsTxts (s : Shared) (a : Addr) (ls : List (List Nat)) : Prop := ∃ l : List (Str × Tok), IsL s a (strValues l) ∧ l.map (·.1) = ls.map Tx
theorem IsTxts.step {X : Addr → Prop} {s s' : Shared} {a ls} (h : IsTxts s a ls) (st : Step X s s') (n : ¬ X a) : IsTxts s' a ls := let ⟨l, x, e⟩ := h; ⟨l, x.step st n, e⟩
theorem IsTxts.step0 {s s' : Shared} {a ls} (h : IsTxts s a ls) (st : Step0 s s') : IsTxts s' a ls := h.step st id
theorem strs_from : ∀ (k : Nat) (l : List Str), ∃ q : List (Str × Tok), strsFrom k l = strValues q ∧ q.map (·.1) = l
  | k, [] => ⟨[], rfl, rfl⟩
  | k, x :: r => by
    obtain ⟨q, e, f⟩ := strs_from (k + 1) r
    exact ⟨(x, k) :: q, by simp [strsFrom, strValues, e], by simp [f]⟩
theorem jn_len (sep : List Nat) (B : Nat) : ∀ ls : List (List Nat), (∀ l ∈ ls, l.length ≤ B) → (jn sep ls).length ≤ ls.length * (B + sep.length)
  | [], _ => by simp [jn]
  | [x], h => by
    have := h x (by simp)
    simp [jn]; omega
  | x :: y :: r, h => by
    have h1 := h x (by simp)
    have h2 := jn_len sep B (y :: r) fun l hl => h l (.tail _ hl)
    show (x ++ sep ++ jn sep (y :: r)).length ≤ _
    simp only [List.length_append, List.length_cons, Nat.succ_mul] at h2 ⊢
    omega
theorem flat_len (B : Nat) : ∀ ls : List (List Nat), (∀ l ∈ ls, l.length ≤ B) → (flatL ls).length ≤ ls.length * (B + 1)
  | [], _ => by simp [flatL]
  | x :: r, h => by
    have h1 := h x (by simp)
    have h2 := flat_len B r fun l hl => h l (.tail _ hl)
    have e : flatL (x :: r) = x ++ [10] ++ flatL r := by simp [flatL]
    rw [e]
    simp only [List.length_append, List.length_cons, List.length_nil, Nat.succ_mul] at h2 ⊢
    omega
section
variable {prog : Program} {w : World} {A : Around} {s : Shared} {Q : Value → Shared → Prop}
theorem op_isstr_i {n : Int} {t : Tok} (h : ∀ s', Step0 s s' → Q (.bool false) s') : wpAny (model prog w) A (call (.builtin "isinstance") [.int n t, .type "str"]) Q NoE s := IsiPair.int_str (h _ (Step0.toks _ _))
theorem op_isstr_s {x : Str} {t : Tok} (h : ∀ s', Step0 s s' → Q (.bool true) s') : wpAny (model prog w) A (call (.builtin "isinstance") [.str x t, .type "str"]) Q NoE s := IsiPair.str_str (h _ (Step.refl _ _))
theorem op_addT {a b : List Nat} {t u : Tok} (hz : a.length + b.length ≤ 10000) (h : ∀ t' s', Step0 s s' → Q (.str (Tx (a ++ b)) t') s') : wpAny (model prog w) A (binaryOp .Add (.str (Tx a) t) (.str (Tx b) u)) Q NoE s :=
  PyProof.Rows.add_str (fun t' tk => by rw [Tx_app]; exact h t' _ (Step0.toks s tk)) (by rw [Tx_len, Tx_len]; exact Nat.le_trans hz (by decide))
theorem op_iaddT {a b : List Nat} {t u : Tok} (hz : a.length + b.length ≤ 10000) (h : ∀ t' s', Step0 s s' → Q (.str (Tx (a ++ b)) t') s') : wpAny (model prog w) A (inplaceOp .Add (.str (Tx a) t) (.str (Tx b) u)) Q NoE s :=
  PyProof.Rows.iadd_str (fun t' tk => by rw [Tx_app]; exact h t' _ (Step0.toks s tk)) (by rw [Tx_len, Tx_len]; exact Nat.le_trans hz (by decide))
theorem foldl_rep : ∀ (n : Nat) (acc : Array Nat), (List.replicate n (Tx [32]).cps).foldl (· ++ ·) acc = acc ++ (List.replicate n 32).toArray
  | 0, acc => by simp
  | n + 1, acc => by
    rw [List.replicate_succ, List.foldl_cons, foldl_rep n, List.replicate_succ]
    apply Array.ext'
    simp [Tx]
theorem op_spaces {n : Nat} {t u : Tok} (hn : n ≤ 1000) (h : ∀ t' s', Step0 s s' → Q (.str (Tx (List.replicate n 32)) t') s') : wpAny (model prog w) A (binaryOp .Mult (.str (Tx [32]) t) (.int n u)) Q NoE s := by
  refine P.mul_str ?_ (fun h1 h2 => ?_) (fun h1 h2 => ?_) ?_
  · have a : ¬ ((n : Int) < -(2 ^ 63 : Int)) := by omega
    have b : ¬ ((n : Int) ≥ 2 ^ 63) := by omega
    rw [decide_eq_false a, decide_eq_false b]; rfl
  · rw [Tx_len]
    have : (1 : Int) ≤ (2 ^ 63 - 1) / (n : Int) := (Int.le_ediv_iff_mul_le (by omega)).mpr (by omega)
    simp only [List.length_cons, List.length_nil]
    omega
  · rw [Tx_len]
    unfold Builtin.Str.tooLong
    refine decide_eq_false ?_
    simp only [List.length_cons, List.length_nil]
    have : 1000 ≤ sizeLine := by decide
    omega
  · split
    · rename_i h1
      have : n = 0 := by omega
      subst this
      exact ⟨by decide, h _ _ (Step0.toks s _)⟩
    · split
      · rename_i h1 h2
        have h3 : ((n : Int) == 1) = true := by simpa [Tx_len] using h2
        have : n = 1 := by have := beq_iff_eq.mp h3; omega
        subst this
        exact h _ _ (Step.refl _ _)
      · rename_i h1 h2
        have e : (⟨(List.replicate (n : Int).toNat (Tx [32]).cps).foldl (· ++ ·) #[]⟩ : Str) = Tx (List.replicate n 32) := by
          rw [Int.toNat_natCast, foldl_rep]
          simp [Tx]
        rw [e]
        refine ⟨?_, h _ _ (Step0.toks s _)⟩
        rw [Tx_len, List.length_replicate]
        exact Nat.le_trans hn (by decide)
theorem op_truthyT {a : List Nat} {t : Tok} {Q : Bool → Shared → Prop} (hz : a.length ≤ 10000) (h : ∀ s', Step0 s s' → Q (!a.isEmpty) s') : wpAny (model prog w) A (truthy (.str (Tx a) t)) Q NoE s := by
  refine P.truthy_str (by rw [Tx_len]; omega) ?_
  have e : (((Tx a).length : Int) != 0) = !a.isEmpty := by
    rw [Tx_len]
    cases a with
    | nil => rfl
    | cons x r =>
      have : ((x :: r).length : Int) ≠ 0 := by simp; omega
      simpa using this
  rw [e]
  exact h _ (Step0.toks s _)
theorem op_joinT {D : Addr} {ls : List (List Nat)} {sep : List Nat} {t : Tok} (hl : IsTxts s D ls) (hn : ls.length ≤ 1000) (h1 : ∀ l ∈ ls, l.length ≤ 1000) (hsep : sep.length ≤ 1000) (h : ∀ t' s', Step0 s s' → Q (.str (Tx (jn sep ls)) t') s') :
    wpAny (model prog w) A (call (.builtin "str.join") [.str (Tx sep) t, .ref D]) Q NoE s := by
  obtain ⟨l, hl, e⟩ := hl
  refine SC.join hl.is e ?_ fun t' k => ?_
  · unfold JoinOk
    rw [Bool.not_eq_true']
    refine StrLaws.joinFits (B := 1000) (fun y hy => ?_) ?_
    · obtain ⟨l, hl', rfl⟩ := List.mem_map.mp hy
      rw [Tx_len]; exact h1 l hl'
    · simp only [List.length_map, Tx_len]
      have := Nat.mul_le_mul hn hsep
      omega
  · rw [jn_Tx]
    exact h t' _ (Step0.toks s k)
theorem op_lines {ls : List (List Nat)} {t : Tok} (hb : ∀ l ∈ ls, noBreak l) (hn : ls.length ≤ 1000) (h1 : ∀ l ∈ ls, l.length ≤ 1000) (h : ∀ r s', Step0 s s' → IsTxts s' r ls → s.heap.get? r = none → Q (.ref r) s') :
    wpAny (model prog w) A (call (.builtin "str.splitlines") [.str (Tx (flatL ls)) t]) Q NoE s := by
  have f1 := flat_len 1000 ls h1
  have f2 : (Tx (flatL ls)).length ≤ sizeLine := by
    rw [Tx_len]
    have := Nat.mul_le_mul hn (Nat.le_refl 1001)
    exact Nat.le_trans f1 (Nat.le_trans this (by decide))
  have f3 : (lineCuts (Tx (flatL ls))).length ≤ sizeLine := by
    unfold lineCuts
    rw [spans_flat hb, List.length_map, spans_len]
    exact Nat.le_trans hn (by decide)
  refine call_meets F.slot_str_splitlines (typeIs_str _ _ _) F.entry_str_splitlines (F.args_str_splitlines_1 _) (meets_str_splitlines _ t f2 f3) ?_
  rw [cuts_ne hb]
  simp only [Bool.false_eq_true, if_false]
  obtain ⟨q, e, f⟩ := strs_from s.toks (linesOf (Tx (flatL ls)))
  rw [lines_flat hb] at e f
  rw [lines_flat hb, e]
  exact h _ _ (Step0.of_heap fun b o e => Heap.get?_push_of_some _ e) ⟨q, ⟨0, Heap.get?_push_size _ rfl⟩, f⟩ (Heap.get?_none_of_le (Nat.le_refl _))
theorem op_pop0 {D : Addr} {l : List Nat} {ls : List (List Nat)} {t : Tok} (hl : IsTxts s D (l :: ls)) (hn : ls.length ≤ 1000) (h : ∀ t' s', IsTxts s' D ls → Step (fun b => b = D) s s' → Q (.str (Tx l) t') s') :
    wpAny (model prog w) A (call (.builtin "list.pop") [.ref D, .int 0 t]) Q NoE s := by
  obtain ⟨q, ⟨n, hl⟩, e⟩ := hl
  cases q with
  | nil => cases e
  | cons p q =>
    simp only [List.map_cons, List.cons.injEq] at e
    have hl : s.heap.get? D = some (seqObj "list" (strValues (p :: q)).toArray n) := hl
    have ql : q.length = ls.length := by simpa using congrArg List.length e.2
    refine call_meets F.slot_list_pop ⟨_, hl, rfl⟩ F.entry_list_pop (F.args_list_pop_2 _ _) (MeetsSeq.list_pop_at D (strValues (p :: q)).toArray n 0 t 0 (.str p.1 p.2) (by decide) (by simp [seqIndex?, strValues]) (by simp [strValues]) (by
      simp only [strValues, List.map_cons, List.size_toArray, List.length_cons, List.length_map, ql]
      exact Nat.le_trans (Nat.succ_le_succ hn) (by decide))) ⟨hl, ?_⟩
    show Q (.str p.1 p.2) _
    rw [e.1]
    have e2 : (strValues (p :: q)).toArray.eraseIdxIfInBounds 0 = (strValues q).toArray := by
      simp [strValues, Array.eraseIdxIfInBounds]
    exact h p.2 _ ⟨q, ⟨_, (get?_update_seq hl fun xs => xs.eraseIdxIfInBounds 0).trans (congrArg (fun x => some (seqObj "list" x _)) e2)⟩, e.2⟩ (Step.upd hl (Obj.mapSeq fun xs => xs.eraseIdxIfInBounds 0))
theorem meth_pop {l : Addr} {ls : List (List Nat)} {pl : Sem Bool} {Q : Value × List Value → Shared → Prop} (h : IsTxts s l ls) (k : Q (.builtin "list.pop", [.ref l]) s) : wpAny (model prog w) A (getMethod (.ref l) "pop" pl) Q NoE s := by
  obtain ⟨q, ⟨n, e⟩, _⟩ := h
  exact getMethod_builtin (T := "list") ⟨_, e, rfl⟩ F.plainAttrs_list F.slot_list_pop F.type_list_pop (fun b eb => by cases eb; exact ⟨_, e, rfl⟩) k
end
end Mine
end
section
open PySem PySem.W PySem.W.X PyProof.Rows
namespace Mine
/-! do_indent -/
def ind1 (i : List Nat) (blank : Bool) (x : List Nat) : List Nat := if blank then i ++ x else if x.isEmpty then x else i ++ x
def indL (i : List Nat) (first blank : Bool) : List (List Nat) → List (List Nat)
  | [] => []
  | l :: r => (if first then i ++ l else l) :: r.map (ind1 i blank)
theorem jn_cons (sep x : List Nat) (r : List (List Nat)) (h : r ≠ []) : jn sep (x :: r) = x ++ sep ++ jn sep r := by
  cases r with
  | nil => exact absurd rfl h
  | cons y r => rfl
theorem jn_head (sep i y : List Nat) (R : List (List Nat)) : jn sep ((i ++ y) :: R) = i ++ jn sep (y :: R) := by
  cases R with
  | nil => rfl
  | cons z R => show (i ++ y) ++ sep ++ jn sep (z :: R) = i ++ (y ++ sep ++ jn sep (z :: R)); simp
theorem jn_ind (sep i : List Nat) : ∀ (l : List Nat) (r : List (List Nat)), jn (sep ++ i) (l :: r) = jn sep (l :: r.map (i ++ ·))
  | l, [] => rfl
  | l, y :: r => by
    show l ++ (sep ++ i) ++ jn (sep ++ i) (y :: r) = l ++ sep ++ jn sep ((i ++ y) :: r.map (i ++ ·))
    rw [jn_ind sep i y r, jn_head]
    simp
def IsW (v : Value) (n : Nat) : Prop := ∃ t, v = .int n t ∨ v = .str (Tx (List.replicate n 32)) t
theorem keep2 {x y z : Str} {m : Str → Option Value} {a v u : Option Value} (h : m y = a) (n1 : decide (y = x) = false := by kernel_rfl) (n2 : decide (y = z) = false := by kernel_rfl) : (fun q : Str => if q = x then v else if q = z then u else m q) y = a := by
  show (if y = x then v else if y = z then u else m y) = a
  rw [if_neg (of_decide_eq_false n1), if_neg (of_decide_eq_false n2)]; exact h
def indTail : List Stmt := (fnBody 21).drop 1
def indEnd : List Stmt := (fnBody 21).drop 4
section
variable {prog : Program} {w : World} {A : Around} {s : Shared}
theorem c_ind_end {L : Addr} {i x : List Nat} {ti t : Tok} {first : Bool} {m cm} {s₀ : Shared} {Q : Flow → Shared → Prop} (X : (KP w.params).In s₀.heap) (F : Run (EV 21 287 w.params L) s₀ m cm s) (m1 : m "rv" = some (.str (Tx x) t)) (m2 : m "first" = some (.bool first)) (c1 : cm "indention" = some (.str (Tx i) ti))
    (hz : i.length + x.length ≤ 10000) (h : ∀ t' s', Step0 s₀ s' → Q (.ret (.str (Tx (if first then i ++ x else x)) t')) s') :
    wpAny (model prog w) A (execs indEnd (EV 21 287 w.params L)) Q NoE s := by
  refine wpAny_execs_cons (wpAny_If (isTrue_plain (g_ld F m2 (wpAny_truthy_bool ?_))))
  cases first with
  | true =>
    simp only [if_true]
    refine wpAny_execs_cons (wpAny_Assign_Name (wpAny_BinOp (g_ldc F (c := celA 21 287 w.params L "indention") (by kernel_rfl) c1 (g_ld F m1 (op_addT hz fun t' s2 h2 => ?_)))))
    refine g_st (F.step0 h2) fun s3 F3 h3 => wpAny_execs_nil ?_
    exact wpAny_execs_cons (wpAny_Return_some (g_ld F3 putN (h t' s3 F3.since)))
  | false =>
    simp only [Bool.false_eq_true, if_false]
    exact wpAny_execs_nil (wpAny_execs_cons (wpAny_Return_some (g_ld F m1 (h t s F.since))))
theorem strs_at {l : List (Str × Tok)} {ls : List (List Nat)} (e : l.map (·.1) = ls.map Tx) {i : Nat} {v : Value} (h : (strValues l)[i]? = some v) : ∃ t, v = .str (Tx (ls.getD i [])) t := by
  unfold strValues at h
  rw [List.getElem?_map] at h
  cases q : l[i]? with
  | none => rw [q] at h; cases h
  | some p =>
    rw [q] at h
    cases h
    have := congrArg (fun z => z[i]?) e
    simp only [List.getElem?_map, q, Option.map_some] at this
    cases q2 : ls[i]? with
    | none => rw [q2] at this; cases this
    | some y =>
      rw [q2] at this
      injection this with this
      exact ⟨p.2, by show Value.str p.1 p.2 = _; rw [this, List.getD_eq_getElem?_getD, q2]; rfl⟩
theorem c_ind_tail {L : Addr} {i : List Nat} {ls : List (List Nat)} {ti t : Tok} {first blank : Bool} {m cm} {s₀ : Shared} {Q : Flow → Shared → Prop} (R : Rm A 641 943) (X : (KP w.params).In s₀.heap) (TB : TabsOk s₀.heap) (F : Run (EV 21 287 w.params L) s₀ m cm s)
    (m1 : m "s" = some (.str (Tx (jn [10] ls)) t)) (m2 : m "first" = some (.bool first)) (m3 : m "blank" = some (.bool blank)) (c1 : cm "indention" = some (.str (Tx i) ti))
    (hi : i.length ≤ 100) (hne : ls ≠ []) (hn : ls.length ≤ 10) (hb : ∀ l ∈ ls, noBreak l) (h1 : ∀ l ∈ ls, l.length ≤ 100) (h : ∀ t' s', Step0 s₀ s' → Q (.ret (.str (Tx (jn [10] (indL i first blank ls))) t')) s') :
    wpAny (model prog w) A (execs indTail (EV 21 287 w.params L)) Q NoE s := by
  obtain ⟨l0, r0, rfl⟩ := List.exists_cons_of_ne_nil hne
  have h1' : ∀ l ∈ l0 :: r0, l.length ≤ 1000 := fun l hl => Nat.le_trans (h1 l hl) (by decide)
  have l0len := h1 l0 (.head _)
  have rlen : r0.length ≤ 9 := by simpa using hn
  have jlen : (jn [10] (l0 :: r0)).length ≤ 1010 := by
    refine Nat.le_trans (jn_len [10] 100 _ h1) ?_
    simp only [List.length_cons, List.length_nil]
    omega
  have indlen : ∀ x, x.length ≤ 100 → (ind1 i blank x).length ≤ 200 := fun x hx => by
    unfold ind1
    split
    · simp only [List.length_append]; omega
    · split
      · omega
      · simp only [List.length_append]; omega
  have jlen2 : (jn [10] (l0 :: r0.map (ind1 i blank))).length ≤ 2010 := by
    refine Nat.le_trans (jn_len [10] 200 _ fun l hl => ?_) ?_
    · rcases List.mem_cons.mp hl with rfl | hl
      · omega
      · obtain ⟨x, hx, rfl⟩ := List.mem_map.mp hl
        exact indlen x (h1 x (.tail _ hx))
    · simp only [List.length_cons, List.length_nil, List.length_map]
      omega
  have fine : (if first = true then i ++ jn [10] (l0 :: r0.map (ind1 i blank)) else jn [10] (l0 :: r0.map (ind1 i blank))) = jn [10] (indL i first blank (l0 :: r0)) := by
    unfold indL
    cases first
    · rfl
    · simp only [if_true]
      rw [jn_head]
  -- newline
  refine wpAny_execs_cons (wpAny_Assign_Name (g_str fun tn s2 h2 => ?_))
  rw [show Str.ofString "\n" = Tx [10] from by kernel_rfl]
  refine g_st (F.step0 h2) fun s3 F3 h3 => ?_
  refine wpAny_execs_cons (wpAny_AugAssign_Name (g_ldn F3 (v := .str (Tx (jn [10] (l0 :: r0))) t) (keepN m1) (g_ld F3 (v := .str (Tx [10]) tn) putN (op_iaddT (by simp only [List.length_cons, List.length_nil]; omega) fun ts s4 h4 => ?_))))
  rw [flat_jn _ hne]
  refine g_st (F3.step0 h4) fun s5 F5 h5 => ?_
  have nl5 : (fun z : Str => if z = "s" then some (.str (Tx (flatL (l0 :: r0))) ts) else if z = "newline" then some (Value.str (Tx [10]) tn) else m z) "newline" = some (.str (Tx [10]) tn) := by kernel_rfl
  have s5' : (fun z : Str => if z = "s" then some (.str (Tx (flatL (l0 :: r0))) ts) else if z = "newline" then some (Value.str (Tx [10]) tn) else m z) "s" = some (.str (Tx (flatL (l0 :: r0))) ts) := putN
  have bl5 : (fun z : Str => if z = "s" then some (.str (Tx (flatL (l0 :: r0))) ts) else if z = "newline" then some (Value.str (Tx [10]) tn) else m z) "blank" = some (.bool blank) := keep2 m3
  have fi5 : (fun z : Str => if z = "s" then some (.str (Tx (flatL (l0 :: r0))) ts) else if z = "newline" then some (Value.str (Tx [10]) tn) else m z) "first" = some (.bool first) := keep2 m2
  generalize (fun z : Str => if z = "s" then some (.str (Tx (flatL (l0 :: r0))) ts) else if z = "newline" then some (Value.str (Tx [10]) tn) else m z) = mm at F5 nl5 s5' bl5 fi5
  refine wpAny_execs_cons (wpAny_If (isTrue_plain (g_ld F5 bl5 (wpAny_truthy_bool ?_))))
  cases blank with
  | true =>
    simp only [if_true]
    refine wpAny_execs_cons (wpAny_Assign_Name (MethodCall_ (wpAny_BinOp (g_ld F5 nl5 (g_ldc F5 (c := celA 21 287 w.params L "indention") (by kernel_rfl) c1 (op_addT (by simp only [List.length_cons, List.length_nil]; omega) fun t6 s6 h6 => ?_))))))
    have F6 := F5.step0 h6
    refine GM.join (cw_builtin (spliced_more (MethodCall_ (g_ld F6 s5' (GM.splitlines (cw_builtin0 (op_lines hb (by simp; omega) h1' fun D s7 h7 hD nD => spliced_none ?_)))))))
    have F7 := F6.step0 h7
    refine op_joinT hD (by simp; omega) h1' (by simp; omega) fun t8 s8 h8 => ?_
    refine g_st (F7.step0 h8) fun s9 F9 h9 => wpAny_execs_nil ?_
    rw [jn_ind] at F9
    have e : r0.map (i ++ ·) = r0.map (ind1 i true) := rfl
    rw [e] at F9
    refine c_ind_end X F9 putN (keepN fi5) c1 (by omega) fun t' s' h' => ?_
    rw [fine]
    exact h t' s' h'
  | false =>
    simp only [Bool.false_eq_true, if_false]
    refine wpAny_execs_cons (wpAny_Assign_Name (MethodCall_ (g_ld F5 s5' (GM.splitlines (cw_builtin0 (op_lines hb (by simp; omega) h1' fun D s6 h6 hD nD => ?_))))))
    have F6 := F5.step0 h6
    have cD := F5.hotAt nD
    have D0 := F5.newAt nD
    refine g_st F6 fun s7 F7 h7 => ?_
    have hD7 := hD.step h7 cD
    refine wpAny_execs_cons (wpAny_Assign_Name (MethodCall_ (g_ld F7 (v := .ref D) putN (meth_pop hD7 (cw_builtin (spliced_more (g_int fun t8 s8 h8 => spliced_none (op_pop0 (hD7.step0 h8) (by omega) fun t9 s9 hD9 h9 => ?_))))))))
    have F9 := (F7.step0 h8).stepX h9 (fun b e => e ▸ cD) (fun b e => e ▸ D0)
    refine g_st F9 fun s10 F10 h10 => ?_
    have hD10 := hD9.step h10 cD
    have ln10 : (fun z : Str => if z = "rv" then some (Value.str (Tx l0) t9) else if z = "lines" then some (.ref D) else mm z) "lines" = some (.ref D) := by kernel_rfl
    have rv10 : (fun z : Str => if z = "rv" then some (Value.str (Tx l0) t9) else if z = "lines" then some (.ref D) else mm z) "rv" = some (.str (Tx l0) t9) := putN
    have nl10 : (fun z : Str => if z = "rv" then some (Value.str (Tx l0) t9) else if z = "lines" then some (.ref D) else mm z) "newline" = some (.str (Tx [10]) tn) := keep2 nl5
    have fi10 : (fun z : Str => if z = "rv" then some (Value.str (Tx l0) t9) else if z = "lines" then some (.ref D) else mm z) "first" = some (.bool first) := keep2 fi5
    generalize (fun z : Str => if z = "rv" then some (Value.str (Tx l0) t9) else if z = "lines" then some (.ref D) else mm z) = mn at F10 ln10 rv10 nl10 fi10
    have hD10' := hD10
    obtain ⟨q, hq, eq⟩ := hD10
    have qlen : q.length = r0.length := by simpa using congrArg List.length eq
    refine wpAny_execs_cons (wpAny_If (isTrue_plain (g_ld F10 ln10 (op_truthyL hq (by simp [strValues]; omega) fun s11 h11 => ?_))))
    have F11 := F10.step0 h11
    cases r0 with
    | nil =>
      have : q = [] := List.eq_nil_of_length_eq_zero (by simpa using qlen)
      subst this
      simp only [strValues, List.map_nil, List.isEmpty_nil, Bool.not_true, Bool.false_eq_true, if_false]
      refine wpAny_execs_nil (wpAny_execs_nil ?_)
      refine c_ind_end (x := l0) X F11 rv10 fi10 c1 (by omega) fun t' s' h' => ?_
      have : (if first = true then i ++ l0 else l0) = (if first = true then i ++ jn [10] (l0 :: ([] : List (List Nat)).map (ind1 i false)) else jn [10] (l0 :: ([] : List (List Nat)).map (ind1 i false))) := rfl
      rw [this, fine]
      exact h t' s' h'
    | cons r1 rs =>
      have q0 : (!(strValues q).isEmpty) = true := by
        cases q with
        | nil => simp at qlen
        | cons a b => rfl
      rw [q0]
      simp only [if_true]
      refine wpAny_execs_cons (wpAny_AugAssign_Name (g_ldn F11 rv10 (wpAny_BinOp (g_ld F11 nl10 (MethodCall_ (g_ld F11 nl10 (GM.join (cw_builtin (spliced_more ?gen)))))))))
      have ic11 : s11.heap.IsCell (celA 21 287 w.params L "indention") (some (.str (Tx i) ti)) := cell_at "indention" F11 c1
      refine op_genexp (p := ⟨282, 175, 41, "do_indent.<locals>.<genexpr>"⟩) (c := 286) (F := fun _ j y => ∃ t, y = .str (Tx (ind1 i false ((r1 :: rs).getD j []))) t) R.handled (Nat.lt_of_le_of_lt R.depth (by decide)) (F11.K X) (F11.since.tab TB) (List.mem_of_getElem? (i := 7) rfl) rfl rfl (by decide) (hd_K (F11.K X)) (by kernel_rfl) (by kernel_rfl) (by kernel_rfl) (by kernel_rfl) (by kernel_rfl) (by kernel_rfl) (by kernel_rfl) (by kernel_rfl) (by kernel_rfl) (by decide)
        (g_ld F11 ln10 ⟨D, strValues q, rfl, Step.refl _ _, hq.step0 h11, by simp [strValues]; omega, ?elt, fun a s12 h12 J => spliced_none ?join⟩) (fun _ => rfl)
      case elt =>
        intro A' E' Cf code j v s12 m12 hA hv hn12 hm12 keep
        obtain ⟨tv, rfl⟩ := strs_at eq hv
        have ic : s12.heap.IsCell (celA 21 287 w.params L "indention") (some (.str (Tx i) ti)) := let ⟨o, e, d⟩ := ic11; ⟨o, keep _ _ e (by unfold isTab; rw [d]; split <;> first | rfl | (rename_i q; cases q)), d⟩
        generalize hx : (r1 :: rs).getD j [] = x
        rw [hx] at hm12
        have xl : x.length ≤ 100 := by
          rw [← hx, List.getD_eq_getElem?_getD]
          cases e : (r1 :: rs)[j]? with
          | none => simp
          | some y => exact h1 y (.tail _ (List.mem_of_getElem? e))
        refine wpAny_IfExp (isTrue_plain (wpAny_Name (wpAny_loadName_local (by kernel_rfl) (by kernel_rfl) hn12 hm12 (P.truthy_str (by rw [Tx_len]; omega) ?_)) (by kernel_rfl)))
        have hx2 : (((Tx x).length : Int) != 0) = !x.isEmpty := by
          rw [Tx_len]
          cases x with
          | nil => rfl
          | cons y r =>
            have : ((y :: r).length : Int) ≠ 0 := by simp; omega
            simpa using this
        rw [hx2]
        cases hem : x.isEmpty with
        | true =>
          simp only [Bool.not_true, Bool.false_eq_true, if_false]
          refine wpAny_Name (wpAny_loadName_local (by kernel_rfl) (by kernel_rfl) hn12 hm12 ⟨⟨tv, ?_⟩, _, _, rfl, fun _ _ e => e⟩) (by kernel_rfl)
          unfold ind1; rw [hem]; rfl
        | false =>
          simp only [Bool.not_false, if_true]
          refine wpAny_BinOp (ld_free (c := celA 21 287 w.params L "indention") (by kernel_rfl) ic (wpAny_Name (wpAny_loadName_local (by kernel_rfl) (by kernel_rfl) hn12 hm12 (PyProof.Rows.add_str (fun t' tk => ⟨⟨t', ?_⟩, _, _, rfl, fun _ _ e => e⟩) (by rw [Tx_len, Tx_len]; exact Nat.le_trans (show i.length + x.length ≤ 10000 by omega) (by decide)))) (by kernel_rfl)) (by kernel_rfl) (by kernel_rfl) (by kernel_rfl) (by kernel_rfl))
          unfold ind1; rw [hem, Tx_app]; rfl
      case join =>
        have F12 := F11.step0 h12
        refine op_join_gen (tx := fun j => ind1 i false ((r1 :: rs).getD j [])) J h12 (fun j y hy => hy) (by simp [strValues]; omega) (fun j => ?_) (by simp) fun t13 s13 h13 => ?_
        · refine Nat.le_trans (indlen _ ?_) (by decide)
          rw [List.getD_eq_getElem?_getD]
          cases e : (r1 :: rs)[j]? with
          | none => simp
          | some y => exact h1 y (.tail _ (List.mem_of_getElem? e))
        · have em : (List.range (strValues q).length).map (fun j => ind1 i false ((r1 :: rs).getD j [])) = (r1 :: rs).map (ind1 i false) := by
            have : (strValues q).length = (r1 :: rs).length := by simp [strValues, qlen]
            rw [this]
            apply List.ext_getElem (by simp)
            intro k k1 k2
            have k3 : k < (r1 :: rs).length := by simpa using k2
            rw [List.getElem_map, List.getElem_range, List.getElem_map, List.getD_eq_getElem?_getD, List.getElem?_eq_getElem k3]
            rfl
          rw [em]
          have F13 := F11.step0 h13
          have jl3 : (jn [10] ((r1 :: rs).map (ind1 i false))).length ≤ 2000 := by
            refine Nat.le_trans (jn_len [10] 200 _ fun l hl => ?_) ?_
            · obtain ⟨x, hx, rfl⟩ := List.mem_map.mp hl
              exact indlen x (h1 x (.tail _ hx))
            · simp only [List.length_cons, List.length_nil, List.length_map] at rlen ⊢
              omega
          refine op_addT (by simp only [List.length_cons, List.length_nil]; omega) fun t14 s14 h14 => op_iaddT (by simp only [List.length_append, List.length_cons, List.length_nil]; omega) fun t15 s15 h15 => ?_
          refine g_st ((F13.step0 h14).step0 h15) fun s16 F16 h16 => wpAny_execs_nil (wpAny_execs_nil ?_)
          have ej : l0 ++ ([10] ++ jn [10] ((r1 :: rs).map (ind1 i false))) = jn [10] (l0 :: (r1 :: rs).map (ind1 i false)) := by
            have := jn_cons [10] l0 ((r1 :: rs).map (ind1 i false)) (by rw [List.map_cons]; exact List.cons_ne_nil _ _)
            rw [this, List.append_assoc]
          rw [ej] at F16
          refine c_ind_end X F16 putN (keepN fi10) c1 (by omega) fun t' s' h' => ?_
          rw [fine]
          exact h t' s' h'
theorem c_indent {ls : List (List Nat)} {wv : Value} {n : Nat} {t : Tok} {first blank : Bool} {args : Args} {Q : Value → Shared → Prop} (R : Rm A 640 940) (X : (KP w.params).In s.heap) (TB : TabsOk s.heap) (hw : IsW wv n)
    (hi : n ≤ 100) (hne : ls ≠ []) (hn : ls.length ≤ 10) (hb : ∀ l ∈ ls, noBreak l) (h1 : ∀ l ∈ ls, l.length ≤ 100)
    (hbind : peek (KP w.params) ⟨prog, w.params⟩ (bindArgs (fdAt w.params 287) args) = some [(("s" : Str), Value.str (Tx (jn [10] ls)) t), ("width", wv), ("first", .bool first), ("blank", .bool blank)])
    (h : ∀ t' s', Step0 s s' → Q (.str (Tx (jn [10] (indL (List.replicate n 32) first blank ls))) t') s') :
    wpAny (model prog w) A (call (.ref 287) args.pos args.kw) Q NoE s := by
  refine call_txt 21 287 X (Nat.lt_of_le_of_lt R.depth (by decide)) hbind (fun L => List.forall_mem_cons.mpr ⟨.inl (by kernel_rfl), List.forall_mem_cons.mpr ⟨.inl (by kernel_rfl), List.forall_mem_cons.mpr ⟨.inl (by kernel_rfl), List.forall_mem_cons.mpr ⟨.inl (by kernel_rfl), List.forall_mem_nil _⟩⟩⟩⟩) (fun L hL s₁ F0 h01 hnn => ?_)
  have R1 := R.deeper (EV 21 287 w.params L)
  have F : Run (EV 21 287 w.params L) s _ _ s₁ := ⟨F0, h01, hnn⟩
  refine wpAny_execs_cons (wpAny_If (isTrue_plain (Call_ (g_built F X (.builtin "isinstance") (cw_builtin (spliced_more (g_ld F (v := wv) (by kernel_rfl) (spliced_more (g_built F X (.type "str") (spliced_none ?_))))))))))
  have go : ∀ (cm2 : Str → Option Value) (ti : Tok) (s2 : Shared), Run (EV 21 287 w.params L) s (mL (EV 21 287 w.params L) [("s", Value.str (Tx (jn [10] ls)) t), ("width", wv), ("first", .bool first), ("blank", .bool blank)]) (fun y => if y = "indention" then some (.str (Tx (List.replicate n 32)) ti) else cm2 y) s2 →
      wpAny (model prog w) (A.deeper (EV 21 287 w.params L)) (execs indTail (EV 21 287 w.params L)) (fun f s' => Q (match f with | .ret v => v | _ => .none) s') NoE s2 := fun cm2 ti s2 F2 =>
    c_ind_tail (t := t) (ti := ti) R1.mono X TB F2 (by kernel_rfl) (by kernel_rfl) (by kernel_rfl) putN (by simp; exact hi) hne hn hb h1 h
  obtain ⟨tw, rfl | rfl⟩ := hw
  · refine op_isstr_i fun s2 h2 => wpAny_truthy_bool ?_
    simp only [Bool.false_eq_true, if_false]
    have F2 := F.step0 h2
    refine wpAny_execs_cons (wpAny_Assign_Name (wpAny_BinOp (g_str fun ts s3 h3 => ?_)))
    rw [show Str.ofString " " = Tx [32] from by kernel_rfl]
    refine g_ld (F2.step0 h3) (v := .int n tw) (by kernel_rfl) (op_spaces (Nat.le_trans hi (by decide)) fun t4 s4 h4 => ?_)
    refine g_stc ((F2.step0 h3).step0 h4) (c := celA 21 287 w.params L "indention") (by kernel_rfl) fun s5 F5 h5 => wpAny_execs_nil ?_
    exact go _ _ _ F5
  · refine op_isstr_s fun s2 h2 => wpAny_truthy_bool ?_
    simp only [if_true]
    refine wpAny_execs_cons (wpAny_Assign_Name (g_ld (F.step0 h2) (v := .str (Tx (List.replicate n 32)) tw) (by kernel_rfl) ?_))
    refine g_stc (F.step0 h2) (c := celA 21 287 w.params L "indention") (by kernel_rfl) fun s5 F5 h5 => wpAny_execs_nil ?_
    exact go _ _ _ F5
end
end Mine
end
section
open PySem PySem.W PySem.W.X PyProof.Rows
namespace Mine
/-! comprehensions, item by item -/
section
variable {prog : Program} {w : World} {A : Around} {s : Shared} {env : Env}
theorem step_hot {Z Y : Addr → Prop} {s s₂ s' : Shared} (h02 : Step0 s s₂) (yn : ∀ b, Y b → s.heap.get? b = none) (hZ : ∀ b, (∃ o, s₂.heap.get? b = some o) → ¬ Y b → ¬ Hot env b → ¬ Z b) (h : Step Z s₂ s') : Step (Hot env) s s' :=
  (Step.trans (X := Z) h02.up h).new fun b z nh => by
    cases e : s.heap.get? b with
    | none => rfl
    | some o =>
      obtain ⟨o', e'⟩ := h02.there b o e id
      exact absurd z (hZ b ⟨o', e'⟩ (fun y => by rw [yn b y] at e; cases e) nh)
/-- whose items are known by themselves -/
theorem built_pure {elt : Expr} {scope : Scope} {s₀ s₂ : Shared} {cm : Str → Option Value} {n : Nat} {B} {Z Y : Addr → Prop} (h02 : Step0 s s₂) (yn : ∀ b, Y b → s.heap.get? b = none) (hZ : ∀ b, (∃ o, s₂.heap.get? b = some o) → ¬ Y b → ¬ Hot env b → ¬ Z b) {G : Nat → Value → Prop}
    (h : ∀ i C mm m' s', i < n → B i mm m' → Run (cEnv scope env C) s₀ m' cm s' → Step (Hot env) s s' → wpAny (model prog w) A (eval elt (cEnv scope env C)) (fun y s'' => Step0 s' s'' ∧ G i y) NoE s') :
    Built prog w A env elt [] scope s₀ s₂ cm n B Z (fun i ys _ => ys.length = i ∧ ∀ j y, ys[j]? = some y → G j y) where
  start := fun s' _ => ⟨rfl, fun j y e => by simp at e⟩
  stable := fun i ys s s' j _ => j
  turn := by
    rintro i ys C mm m' s' hi ⟨hl, hG⟩ b F st ex
    refine wpAny_tests_nil ⟨Step.refl _ _, ?_⟩
    simp only [if_true]
    refine wpAny_mono (h i C mm m' s' hi b F (step_hot h02 yn hZ st)) (fun y s'' q => ⟨q.1, by simp [hl], fun j z e => ?_⟩) fun _ _ q => q
    by_cases hj : j < ys.length
    · rw [List.getElem?_append_left hj] at e; exact hG j z e
    · rw [List.getElem?_append_right (by omega)] at e
      have : j - ys.length = 0 := by
        have := (List.getElem?_eq_some_iff.mp e).1
        simp at this; omega
      rw [this] at e
      cases e
      have : j = i := by omega
      rw [this]; exact q.2
/-- what a comprehension's source must give -/
abbrev Clause (prog : Program) (w : World) (A : Around) (env : Env) (target : Expr) (scope : Scope) (s : Shared) (it : Value) (s₂ : Shared) (I : Addr) (Dp Y : Addr → Prop) (n : Nat) (V : Nat → Value → Shared → Prop) (B : Nat → (Str → Option Value) → (Str → Option Value) → Prop) (St : Nat → Shared → Prop) : Prop :=
  it = .ref I ∧ Step0 s s₂ ∧ (∀ b, Y b → s.heap.get? b = none) ∧ Itr prog w A target I Dp Y n V St ∧ St 0 s₂ ∧ n ≤ 1000 ∧ (∀ b, Dp b → ¬ Hot env b) ∧ (∀ i C, Bnd prog w A (cEnv scope env C) target (V i) (B i))
theorem comp_pure {elt target iter : Expr} {scope : Scope} {pos : Pos} {s₀ : Shared} {m cm} {P : Params} {Q : Value → Shared → Prop} (X : (KP P).In s₀.heap) (F : Run env s₀ m cm s)
    (h : wpAny (model prog w) A (eval iter env) (fun xv s₁ => wpAny (model prog w) A (pyIter xv) (fun it s₂ => ∃ I Dp Y n V B St, ∃ G : Nat → Value → Prop, Clause prog w A env target scope s it s₂ I Dp Y n V B St ∧
      (∀ i C mm m' s', i < n → B i mm m' → Run (cEnv scope env C) s₀ m' cm s' → Step (Hot env) s s' → wpAny (model prog w) A (eval elt (cEnv scope env C)) (fun y s'' => Step0 s' s'' ∧ G i y) NoE s') ∧
      ∀ D ys s', IsL s' D ys → ys.length = n → (∀ i y, ys[i]? = some y → G i y) → s.heap.get? D = none → Step0 s s' → Q (.ref D) s') NoE s₁) NoE s)
    (hok : clOk scope.names env.cells = true := by kernel_rfl) (hcell : (scope.names.all fun x => !(x.2 == .cell)) = true := by kernel_rfl) (hkind : scope.kind = .function := by kernel_rfl)
    (hnames : (scope.names.all fun x => !(x.2 == .local) || scope.names.lookup x.1 == some .local) = true := by kernel_rfl) (hs : ∀ x, foldedSetIterable iter env x = pure x := by intro _; rfl) :
    wpAny (model prog w) A (eval (.ListComp elt [⟨target, iter, [], 0⟩] scope pos) env) Q NoE s := by
  refine comp_rule X F (wpAny_mono h (fun xv s₁ q => wpAny_mono q (fun it s₂ q => ?_) fun _ _ q => q) fun _ _ q => q) hok hcell hkind hnames hs
  obtain ⟨I, Dp, Y, n, V, B, St, G, ⟨e, h02, yn, T, st0, hz, cold, bd⟩, item, fin⟩ := q
  exact ⟨I, Dp, Y, n, V, B, St, e, h02, yn, T, st0, hz, cold, bd, fun Z hZ => ⟨_, built_pure h02 yn hZ item, fun D ys s' j hD nD h' _ => fin D ys s' hD j.1 j.2 nD h'⟩⟩
theorem comp_pureA {elt target iter : Expr} {scope : Scope} {pos py spos : Pos} {y : Str} {s₀ : Shared} {m cm} {P : Params} {Q : Flow → Shared → Prop} (X : (KP P).In s₀.heap) (F : Run env s₀ m cm s)
    (h : wpAny (model prog w) A (eval iter env) (fun xv s₁ => wpAny (model prog w) A (pyIter xv) (fun it s₂ => ∃ I Dp Y n V B St, ∃ G : Nat → Value → Prop, Clause prog w A env target scope s it s₂ I Dp Y n V B St ∧
      (∀ i C mm m' s', i < n → B i mm m' → Run (cEnv scope env C) s₀ m' cm s' → Step (Hot env) s s' → wpAny (model prog w) A (eval elt (cEnv scope env C)) (fun y s'' => Step0 s' s'' ∧ G i y) NoE s') ∧
      ∀ D ys s', IsL s' D ys → ys.length = n → (∀ i y, ys[i]? = some y → G i y) → s.heap.get? D = none → Run env s₀ (fun z => if z = y then some (.ref D) else m z) cm s' → Step (Hot env) s s' → Q .next s') NoE s₁) NoE s)
    (hsw : swapsWith (.ListComp elt [⟨target, iter, [], 0⟩] scope pos) (some (.Name y py)) spos.line env = pure true := by kernel_rfl)
    (hl : env.kindOf y = some .local := by kernel_rfl) (hp : (env.scope.kind == .class || (env.scope.kind == .module && env.locals != env.globals)) = false := by kernel_rfl)
    (hok : clOk scope.names env.cells = true := by kernel_rfl) (hcell : (scope.names.all fun x => !(x.2 == .cell)) = true := by kernel_rfl) (hkind : scope.kind = .function := by kernel_rfl)
    (hnames : (scope.names.all fun x => !(x.2 == .local) || scope.names.lookup x.1 == some .local) = true := by kernel_rfl) (hs : ∀ x, foldedSetIterable iter env x = pure x := by intro _; rfl) :
    wpAny (model prog w) A (exec (.Assign [.Name y py] (.ListComp elt [⟨target, iter, [], 0⟩] scope pos) spos) env) Q NoE s := by
  refine comp_assign X F (wpAny_mono h (fun xv s₁ q => wpAny_mono q (fun it s₂ q => ?_) fun _ _ q => q) fun _ _ q => q) hsw hl hp hok hcell hkind hnames hs
  obtain ⟨I, Dp, Y, n, V, B, St, G, ⟨e, h02, yn, T, st0, hz, cold, bd⟩, item, fin⟩ := q
  exact ⟨I, Dp, Y, n, V, B, St, e, h02, yn, T, st0, hz, cold, bd, fun Z hZ => ⟨_, built_pure h02 yn hZ item, fun D ys s' j hD nD R' h' => fin D ys s' hD j.1 j.2 nD R' h'⟩⟩
/-- new objects, one for each item -/
def NewAll (G : Nat → Addr → Shared → Prop) (Z : Addr → Prop) (env : Env) (i : Nat) (ys : List Value) (s : Shared) : Prop :=
  ∃ as : List Addr, ys = as.map .ref ∧ as.length = i ∧ as.Nodup ∧ ∀ (j : Nat) (a : Addr), as[j]? = some a → (∃ o, s.heap.get? a = some o) ∧ ¬ Z a ∧ ¬ Hot env a ∧ G j a s
theorem built_new {elt : Expr} {scope : Scope} {s₀ s₂ : Shared} {m cm : Str → Option Value} {n : Nat} {B} {Z Y : Addr → Prop} (F : Run env s₀ m cm s) (h02 : Step0 s s₂) (yn : ∀ b, Y b → s.heap.get? b = none) (hZ : ∀ b, (∃ o, s₂.heap.get? b = some o) → ¬ Y b → ¬ Hot env b → ¬ Z b) {G : Nat → Addr → Shared → Prop}
    (hG : ∀ i a (X : Addr → Prop) s s', G i a s → Step X s s' → ¬ X a → G i a s')
    (h : ∀ i C mm m' s', i < n → B i mm m' → Run (cEnv scope env C) s₀ m' cm s' → Step (Hot env) s s' → wpAny (model prog w) A (eval elt (cEnv scope env C)) (fun y s'' => Step0 s' s'' ∧ ∃ a, y = .ref a ∧ s'.heap.get? a = none ∧ (∃ o, s''.heap.get? a = some o) ∧ G i a s'') NoE s') :
    Built prog w A env elt [] scope s₀ s₂ cm n B Z (NewAll G Z env) where
  start := fun s' _ => ⟨[], rfl, rfl, List.nodup_nil, fun j a e => by simp at e⟩
  stable := by
    rintro i ys s s' ⟨as, e1, e2, e3, e4⟩ st
    exact ⟨as, e1, e2, e3, fun j a e => let ⟨⟨o, q⟩, nz, nh, g⟩ := e4 j a e; ⟨st.there a o q nz, nz, nh, hG j a Z s s' g st nz⟩⟩
  turn := by
    rintro i ys C mm m' s' hi ⟨as, rfl, e2, e3, e4⟩ b R3 st ex
    refine wpAny_tests_nil ⟨Step.refl _ _, ?_⟩
    simp only [if_true]
    refine wpAny_mono (h i C mm m' s' hi b R3 (step_hot h02 yn hZ st)) (fun y s'' q => ?_) fun _ _ q => q
    obtain ⟨s45, a, rfl, na, ea, ga⟩ := q
    have nz : ¬ Z a := fun z => by
      obtain ⟨o, e⟩ := ex a z
      rw [na] at e; cases e
    have nh : ¬ Hot env a := fun hh => by
      have : s.heap.get? a = none := by
        cases e : s.heap.get? a with
        | none => rfl
        | some o =>
          obtain ⟨o', e'⟩ := h02.there a o e id
          obtain ⟨o2, e2⟩ := st.there a o' e' nz
          rw [na] at e2; cases e2
      exact F.hotAt this hh
    refine ⟨s45, as ++ [a], by simp, by simp [e2], ?_, fun j c e => ?_⟩
    · rw [List.nodup_append]
      refine ⟨e3, by simp, fun x hx y hy q => ?_⟩
      obtain ⟨j, hj⟩ := List.getElem?_of_mem hx
      obtain ⟨⟨o, eo⟩, _⟩ := e4 j x hj
      rw [q, List.mem_singleton.mp hy, na] at eo; cases eo
    · by_cases hj : j < as.length
      · rw [List.getElem?_append_left hj] at e
        obtain ⟨⟨o, q⟩, nz, nh, g⟩ := e4 j c e
        exact ⟨s45.there c o q id, nz, nh, hG j c _ _ _ g s45 id⟩
      · rw [List.getElem?_append_right (by omega)] at e
        have : j - as.length = 0 := by
          have := (List.getElem?_eq_some_iff.mp e).1
          simp at this; omega
        rw [this] at e
        cases e
        have : j = i := by omega
        rw [this]; exact ⟨ea, nz, nh, ga⟩
theorem comp_newA {elt target iter : Expr} {scope : Scope} {pos py spos : Pos} {y : Str} {s₀ : Shared} {m cm} {P : Params} {Q : Flow → Shared → Prop} (X : (KP P).In s₀.heap) (F : Run env s₀ m cm s)
    (h : wpAny (model prog w) A (eval iter env) (fun xv s₁ => wpAny (model prog w) A (pyIter xv) (fun it s₂ => ∃ I Dp Y n V B St, ∃ G : Nat → Addr → Shared → Prop, Clause prog w A env target scope s it s₂ I Dp Y n V B St ∧
      (∀ i a (X : Addr → Prop) s s', G i a s → Step X s s' → ¬ X a → G i a s') ∧
      (∀ i C mm m' s', i < n → B i mm m' → Run (cEnv scope env C) s₀ m' cm s' → Step (Hot env) s s' → wpAny (model prog w) A (eval elt (cEnv scope env C)) (fun y s'' => Step0 s' s'' ∧ ∃ a, y = .ref a ∧ s'.heap.get? a = none ∧ (∃ o, s''.heap.get? a = some o) ∧ G i a s'') NoE s') ∧
      ∀ D (as : List Addr) s', IsL s' D (as.map .ref) → as.length = n → as.Nodup → (∀ (i : Nat) (a : Addr), as[i]? = some a → ¬ Hot env a ∧ G i a s') → s.heap.get? D = none → Run env s₀ (fun z => if z = y then some (.ref D) else m z) cm s' → Step (Hot env) s s' → Q .next s') NoE s₁) NoE s)
    (hsw : swapsWith (.ListComp elt [⟨target, iter, [], 0⟩] scope pos) (some (.Name y py)) spos.line env = pure true := by kernel_rfl)
    (hl : env.kindOf y = some .local := by kernel_rfl) (hp : (env.scope.kind == .class || (env.scope.kind == .module && env.locals != env.globals)) = false := by kernel_rfl)
    (hok : clOk scope.names env.cells = true := by kernel_rfl) (hcell : (scope.names.all fun x => !(x.2 == .cell)) = true := by kernel_rfl) (hkind : scope.kind = .function := by kernel_rfl)
    (hnames : (scope.names.all fun x => !(x.2 == .local) || scope.names.lookup x.1 == some .local) = true := by kernel_rfl) (hs : ∀ x, foldedSetIterable iter env x = pure x := by intro _; rfl) :
    wpAny (model prog w) A (exec (.Assign [.Name y py] (.ListComp elt [⟨target, iter, [], 0⟩] scope pos) spos) env) Q NoE s := by
  refine comp_assign X F (wpAny_mono h (fun xv s₁ q => wpAny_mono q (fun it s₂ q => ?_) fun _ _ q => q) fun _ _ q => q) hsw hl hp hok hcell hkind hnames hs
  obtain ⟨I, Dp, Y, n, V, B, St, G, ⟨e, h02, yn, T, st0, hz, cold, bd⟩, hG, item, fin⟩ := q
  refine ⟨I, Dp, Y, n, V, B, St, e, h02, yn, T, st0, hz, cold, bd, fun Z hZ => ⟨_, built_new F h02 yn hZ hG item, fun D ys s' j hD nD R' h' => ?_⟩⟩
  obtain ⟨as, rfl, j2, j3, j4⟩ := j
  exact fin D as s' hD j2 j3 (fun i a e => let ⟨_, _, nh, g⟩ := j4 i a e; ⟨nh, g⟩) nD R' h'
/-- a list's items, each bound to a name -/
theorem clause_list {x : Str} {px : Pos} {scope : Scope} {l : Addr} {vs : List Value} {s₁ : Shared} {P : Params} {m cm} {s₀ : Shared} {Q : Value → Shared → Prop} (hh : A.handled = none) (X : (KP P).In s₀.heap) (F : Run env s₀ m cm s) (h01 : Step0 s s₁) (hl : IsL s₁ l vs) (nl : ¬ Hot env l) (hz : vs.length ≤ 1000)
    (hx : ∀ C, (cEnv scope env C).kindOf x = some .local) (hp : ∀ C, ((cEnv scope env C).scope.kind == .class || ((cEnv scope env C).scope.kind == .module && (cEnv scope env C).locals != (cEnv scope env C).globals)) = false)
    (h : ∀ I s₂ V St, Clause prog w A env (.Name x px) scope s (.ref I) s₂ I (fun b => b = I ∨ b = l) (fun b => b = I) vs.length V (fun i m m' => ∃ v, vs[i]? = some v ∧ m' = fun y => if y = x then some v else m y) St → Q (.ref I) s₂) :
    wpAny (model prog w) A (pyIter (.ref l)) Q NoE s₁ := by
  have F1 := F.step0 h01
  refine iter_list hl.is (fun I s₂ hit h2 nI hI4 => ?_) (size_ge (F1.K X))
  have T : Itr prog w A (.Name x px) I (fun b => b = I ∨ b = l) (fun b => b = I) vs.toArray.size _ _ := itr_list hh (ne_new hl.some nI) hI4
  rw [List.size_toArray] at T
  refine h I s₂ _ _ ⟨rfl, h01.trans h2, ?_, T, ⟨hit, (hl.step0 h2).is⟩, hz, ?_, fun i C => bnd_name (fun v s hv => by simpa using hv.1) (hx C) (hp C)⟩
  · rintro b rfl; exact h01.notThere nI
  · rintro b (rfl | rfl)
    · exact F1.hotAt nI
    · exact nl
/-- for k in range(n) -/
theorem clause_range {x : Str} {px : Pos} {scope : Scope} {n : Nat} {t : Tok} {s₁ : Shared} {P : Params} {m cm} {s₀ : Shared} {Q : Value → Shared → Prop} (hh : A.handled = none) (X : (KP P).In s₀.heap) (F : Run env s₀ m cm s) (h01 : Step0 s s₁) (hn : n ≤ 1000)
    (hx : ∀ C, (cEnv scope env C).kindOf x = some .local) (hp : ∀ C, ((cEnv scope env C).scope.kind == .class || ((cEnv scope env C).scope.kind == .module && (cEnv scope env C).locals != (cEnv scope env C).globals)) = false)
    (h : ∀ I s₂ V St, Clause prog w A env (.Name x px) scope s (.ref I) s₂ I (fun b => b ∈ [I]) (fun b => b ∈ [I]) n V (fun i m m' => ∃ v, (∃ t, v = .int i t) ∧ m' = fun y => if y = x then some v else m y) St → Q (.ref I) s₂) :
    wpAny (model prog w) A (call (.type "range") [.int n t]) (fun xv s₂ => wpAny (model prog w) A (pyIter xv) Q NoE s₂) NoE s₁ := by
  have F1 := F.step0 h01
  refine op_range hn (size_ge (F1.K X)) fun r s₂ h2 kk => kk A _ fun I s₃ h3 hI nI hI4 => ?_
  have h03 := h01.trans (h2.trans h3)
  have T : Itr prog w A (.Name x px) I (fun b => b ∈ [I]) (fun b => b ∈ [I]) n _ _ := itr_range (a := 0) hh hI4
  refine h I s₃ _ _ ⟨rfl, h03, ?_, T, by simpa using hI, hn, ?_, fun i C => bnd_name (fun v s hv => by simpa using hv) (hx C) (hp C)⟩
  · intro b hb
    rw [List.mem_singleton.mp hb]
    exact Step0.notThere (h01.trans h2) nI
  · intro b hb
    rw [List.mem_singleton.mp hb]
    exact (F1.step0 h2).hotAt nI
end
end Mine
end
section
open PySem PySem.W PySem.W.X PyProof.Rows
namespace Mine
section
variable {prog : Program} {w : World} {A : Around} {s : Shared} {env : Env}
/-- the inner loop's part of a turn -/
def InnerO (prog : Program) (w : World) (A : Around) (env : Env) (elt target2 iter2 : Expr) (ifs2 : List Expr) (scope : Scope) (s₀ s₂ : Shared) (cm : Str → Option Value) (keep : Str → Bool) (Z : Addr → Prop) (C : Addr) (m' : Str → Option Value) (ys : List Value) (s' : Shared) (K : List Value → Shared → Prop) : Prop :=
  wpAny (model prog w) A (eval iter2 (cEnv scope env C)) (fun xv s₁ => wpAny (model prog w) A (pyIter xv) (fun it s₃ => ∃ I Dp Y n V, ∃ B : Nat → (Str → Option Value) → (Str → Option Value) → Prop, ∃ St, it = .ref I ∧ Step0 s' s₃ ∧ (∀ b, Y b → s'.heap.get? b = none) ∧ Itr prog w A target2 I Dp Y n V St ∧ St 0 s₃ ∧ (∀ b, Dp b → ¬ Z b) ∧
    (∀ i, Bnd prog w A (cEnv scope env C) target2 (V i) (B i)) ∧ (∀ i m m', B i m m' → ∀ y, keep y = true → m' y = m y) ∧
    ∃ J : Nat → List Value → Shared → Prop, (∀ i ys s, J i ys s → ys.length < 1000) ∧ J 0 ys s₃ ∧ (∀ i ys s s', J i ys s → Step (fun b => Z b ∨ Y b) s s' → J i ys s') ∧
      (∀ i ys m₂ s, i < n → J i ys s → (∃ mm, B i mm m₂) → (∀ y, keep y = true → m₂ y = m' y) → Run (cEnv scope env C) s₀ m₂ cm s → Step Z s₂ s → (∀ b, Z b → ∃ o, s.heap.get? b = some o) → (∀ n c, Cel env n c → s.heap.IsCell c (cm n)) →
        wpAny (model prog w) A (testsOf ifs2 (cEnv scope env C)) (fun ok s'' => Step0 s s'' ∧ if ok = true then wpAny (model prog w) A (eval elt (cEnv scope env C)) (fun y s₄ => Step0 s'' s₄ ∧ J (i + 1) (ys ++ [y]) s₄) NoE s'' else J (i + 1) ys s'') NoE s) ∧
      (∀ ys s, J n ys s → K ys s)) NoE s₁) NoE s'
structure Built2O (prog : Program) (w : World) (A : Around) (env : Env) (elt target2 iter2 : Expr) (ifs2 : List Expr) (scope : Scope) (s₀ s₂ : Shared) (cm : Str → Option Value) (n : Nat) (B : Nat → (Str → Option Value) → (Str → Option Value) → Prop) (keep : Str → Bool) (Z : Addr → Prop)
    (J : Nat → List Value → Shared → Prop) : Prop where
  start : ∀ s', Step Z s₂ s' → J 0 [] s'
  stable : ∀ i ys s s', J i ys s → Step Z s s' → J i ys s'
  turn : ∀ i ys C mm m' s', i < n → J i ys s' → B i mm m' → Run (cEnv scope env C) s₀ m' cm s' → Z C → Step Z s₂ s' → (∀ b, Z b → ∃ o, s'.heap.get? b = some o) →
    InnerO prog w A env elt target2 iter2 ifs2 scope s₀ s₂ cm keep Z C m' ys s' (J (i + 1))

theorem comp2_ruleO {elt target iter target2 iter2 : Expr} {ifs2 : List Expr} {scope : Scope} {pos : Pos} {s₀ : Shared} {m cm} {P : Params} {Q : Value → Shared → Prop} (X : (KP P).In s₀.heap) (F : Run env s₀ m cm s) (hh : A.handled = none)
    (h : wpAny (model prog w) A (eval iter env) (fun xv s₁ => wpAny (model prog w) A (pyIter xv) (fun it s₂ => ∃ I Dp Y n V B keep St, it = .ref I ∧ Step0 s s₂ ∧ (∀ b, Y b → s.heap.get? b = none) ∧ Itr prog w A target I Dp Y n V St ∧ St 0 s₂ ∧
      (∀ b, Dp b → ¬ Hot env b) ∧ (∀ i C, Bnd prog w A (cEnv scope env C) target (V i) (B i)) ∧
      ∀ Z, (∀ b, (∃ o, s₂.heap.get? b = some o) → ¬ Y b → ¬ Hot env b → ¬ Z b) → ∃ J, Built2O prog w A env elt target2 iter2 ifs2 scope s₀ s₂ cm n B keep Z J ∧
        ∀ D ys s', J n ys s' → IsL s' D ys → s.heap.get? D = none → Step0 s s' → Step Z s₂ s' → Q (.ref D) s') NoE s₁) NoE s)
    (hs2 : ∀ C x, foldedSetIterable iter2 (cEnv scope env C) x = pure x := by intro _ _; rfl)
    (hok : clOk scope.names env.cells = true := by kernel_rfl) (hcell : (scope.names.all fun x => !(x.2 == .cell)) = true := by kernel_rfl) (hkind : scope.kind = .function := by kernel_rfl)
    (hnames : (scope.names.all fun x => !(x.2 == .local) || scope.names.lookup x.1 == some .local) = true := by kernel_rfl) (hs : ∀ x, foldedSetIterable iter env x = pure x := by intro _; rfl) :
    wpAny (model prog w) A (eval (.ListComp elt [⟨target, iter, [], 0⟩, ⟨target2, iter2, ifs2, 0⟩] scope pos) env) Q NoE s := by
  rw [eval_ListComp]
  refine wpAny_comprehension_free (use := none) rfl hs (closure_eq hok) hkind (fun x hx e => by
    have := List.all_eq_true.mp hnames x hx
    rw [e] at this
    simpa using this) (wpAny_mono h (fun xv s₁ h₁ => wpAny_mono h₁ (fun it s₂ h₂ => ?_) fun _ _ e => e) fun _ _ e => e)
  obtain ⟨I, Dp, Y, n, V, B, keep, St, rfl, h02, yn, T, st0, cold, bd, hb⟩ := h₂
  have ynew : ∀ b, Y b → s₀.heap.get? b = none := fun b y => F.newAt (yn b y)
  replace F := F.step0 h02
  refine op_newList (by decide) (fun D s₃ h3 hD nD hs => ?_) (size_ge (F.K X))
  refine wpAny_newFunctionEnv (fun x hx e => by
    have := List.all_eq_true.mp hcell x hx
    rw [e] at this; cases this) (by intro x hx; cases hx) (fun h' hns hsb => ?_) hkind
  generalize hC : s₃.heap.objs.size = C at hns hsb
  have c4 : 406 ≤ C := by rw [← hC]; exact size_ge ((F.step0 h3).K X)
  have nC3 : s₃.heap.get? C = none := Heap.get?_none_of_le (by rw [hC]; exact Nat.le_refl _)
  have nC : s₂.heap.get? C = none := h3.notThere nC3
  obtain ⟨oD, eD⟩ := hD.some
  have dc : D ≠ C := fun e => by rw [e, nC3] at eD; cases eD
  have s34 : Step0 s₃ { s₃ with heap := h', toks := s₃.toks + ([] : List (Str × Value)).length } := by
    refine Step0.of_heap fun b o e => ?_
    have hb : b ≠ C := fun q => by rw [q, nC3] at e; cases e
    exact (hsb.2 b hb).trans (Heap.get?_push_of_some _ e)
  generalize hs4 : ({ s₃ with heap := h', toks := s₃.toks + ([] : List (Str × Value)).length } : Shared) = s₄ at s34
  have hns4 : s₄.heap.Ns C (fun x => ([] : List (Str × Value)).reverse.lookup x) := by rw [← hs4]; exact hns
  have F4 := (F.step0 h3).step0 s34
  have hD4 := hD.step0 s34
  have hCh : ¬ Hot env C := F.hotAt nC
  have hDh : ¬ Hot env D := F.hotAt nD
  have R4 : Run (cEnv scope env C) s₀ _ cm s₄ := cRun hcell F4 c4 (F.newAt nC) hCh hns4
  have yold : ∀ b, Y b → ∃ o, s₂.heap.get? b = some o := fun b y => T.there _ _ st0 b (T.sub b y)
  have dold : ∀ b, Dp b → b ≠ D ∧ b ≠ C := fun b d => by
    obtain ⟨o, e⟩ := T.there _ _ st0 b d
    exact ⟨fun q => (by rw [q, nD] at e; cases e), fun q => (by rw [q, nC] at e; cases e)⟩
  have cold' : ∀ b, Dp b → ¬ Hot (cEnv scope env C) b := fun b d => by
    rintro (rfl | ⟨n, hn⟩)
    · exact (dold _ d).2 rfl
    · exact cold b d (.inr ⟨n, cl_sub hcell hn⟩)
  let Z : Addr → Prop := fun b => b = D ∨ b = C ∨ Y b ∨ Hot env b
  have zD : Z D := .inl rfl
  have zC : Z C := .inr (.inl rfl)
  obtain ⟨J, BJ, fin⟩ := hb Z (by
    rintro b ⟨o, e⟩ ny nh (rfl | rfl | y | hh)
    · rw [nD] at e; cases e
    · rw [nC] at e; cases e
    · exact ny y
    · exact nh hh)
  have S : Src prog w A (cEnv scope env C) target I Dp Y n B St := Src.of T cold' (fun i => bd i C)
  have st4 : St 0 s₄ := T.stable (fun _ => False) 0 _ _ (T.stable (fun _ => False) 0 _ _ st0 h3 (fun _ q => q.elim)) s34 (fun _ q => q.elim)
  have zr : ∀ b, (b = D ∨ b = C ∨ Y b) → Z b := fun b h => h.elim .inl fun h => h.elim (fun h => .inr (.inl h)) fun h => .inr (.inr (.inl h))
  have dh : ¬ Hot (cEnv scope env C) D := by
    rintro (e | ⟨n, hn⟩)
    · exact dc e
    · exact hDh (.inr ⟨n, cl_sub hcell hn⟩)
  have outer : ∀ s, Step (fun b => b = D ∨ b = C ∨ Y b) s₂ s → ∀ n c, Cel env n c → s.heap.IsCell c (cm n) := fun s st n c hn => isCell_stepX (F.act.cell n c hn) st (by
    rintro (rfl | rfl | y)
    · exact hDh (.inr ⟨n, hn⟩)
    · exact hCh (.inr ⟨n, hn⟩)
    · exact cold c (T.sub c y) (.inr ⟨n, hn⟩))
  let RR : Result → Shared → Prop := compPost (model prog w) A NoE none Q (.ref D) C
  have loop : codeAny (model prog w) A (.compLoop (.ListComp elt [⟨target, iter, [], 0⟩, ⟨target2, iter2, ifs2, 0⟩] scope pos) 0 (.ref I) (.ref D) (cEnv scope env C)) RR s₄ := by
    refine comp_loopT (pos := iter.pos) (ifs := []) (tail := do
        let x ← eval iter2 (cEnv scope env C)
        standAt iter2.pos
        let x ← foldedSetIterable iter2 (cEnv scope env C) x
        let _ ← runOwn (.compStart (.ListComp elt [⟨target, iter, [], 0⟩, ⟨target2, iter2, ifs2, 0⟩] scope pos) 1 (← holding [x] (pyIter x)) (.ref D) (cEnv scope env C)) (cEnv scope env C)
        again (.compLoop (.ListComp elt [⟨target, iter, [], 0⟩, ⟨target2, iter2, ifs2, 0⟩] scope pos) 0 (.ref I) (.ref D) (cEnv scope env C))) rfl S
      (fun i s' => ∃ ys m', J i ys s' ∧ IsL s' D ys ∧ Run (cEnv scope env C) s₀ m' cm s' ∧ Step (fun b => b = D ∨ b = C ∨ Y b) s₂ s' ∧ ∀ b, Z b → ∃ o, s'.heap.get? b = some o) st4
      ⟨[], _, BJ.start _ ((h3.trans s34).up), hD4, R4, (h3.trans s34).up, ?_⟩ ?_ ?_
    · rintro b (rfl | rfl | y | hh)
      · exact hD4.some
      · obtain ⟨o, _, _, e, _⟩ := hns4; exact ⟨o, e⟩
      · obtain ⟨o, e⟩ := yold b y
        exact (h3.trans s34).there b o e (fun q => q)
      · cases e : s₂.heap.get? b with
        | some o => exact (h3.trans s34).there b o e (fun q => q)
        | none => exact absurd hh (F.hotAt e)
    · rintro i s₅ hi ⟨ys, m₅, j, hD5, R5, h5, ex⟩
      refine ⟨m₅, cm, R5.act, fun m' s₆ hb F6 h6 st6 => ?_⟩
      have h6' : Step (fun b => b = D ∨ b = C ∨ Y b) s₅ s₆ := h6.mono fun b e => e.elim (fun e => .inr (.inl e)) fun e => .inr (.inr e)
      have R6 : Run (cEnv scope env C) s₀ m' cm s₆ := ⟨F6, (Step.trans F.since.up (h5.trans h6')).new (fun b hb _ => by
        rcases hb with rfl | rfl | y
        · exact F.newAt nD
        · exact F.newAt nC
        · exact ynew _ y), R5.new⟩
      have j6 := BJ.stable _ _ _ _ j (h6'.mono zr)
      have ex6 : ∀ b, Z b → ∃ o, s₆.heap.get? b = some o := fun b z => by
        by_cases hx : b = (cEnv scope env C).locals ∨ Y b
        · rcases hx with rfl | y
          · obtain ⟨o, _, _, e, _⟩ := F6.ns; exact ⟨o, e⟩
          · exact T.there _ _ st6 b (T.sub b y)
        · obtain ⟨o, e⟩ := ex b z
          exact h6.there b o e hx
      have hD6 : IsL s₆ D ys := hD5.step h6 (fun q => q.elim (fun e => dc e) fun y => (dold D (T.sub D y)).1 rfl)
      have h26 := h5.trans h6'
      refine wpAny_tests_nil ?_
      simp only [if_true]
      have go := BJ.turn i ys C m₅ m' s₆ hi j6 hb R6 zC (h26.mono zr) ex6
      unfold InnerO at go
      refine wpAny_bind (wpAny_mono go (fun xv s₇ h₇ => wpAny_bind (wpAny_standAt (wpAny_bind (wpAny_of_eq (hs2 C xv) (wpAny_bind (wpAny_holding (wpAny_mono h₇ (fun it s₈ h₈ => ?_) fun _ _ q => q))))))) fun _ _ q => q)
      obtain ⟨I2, Dp2, Y2, n2, V2, B2, St2, rfl, h68, y2n, T2, st2, cold2, bd2, kp2, J2, sz2, j20, stb2, turn2, fin2⟩ := h₈
      have R8 := R6.step0 h68
      have hD8 := hD6.step0 h68
      have ex8 : ∀ b, Z b → ∃ o, s₈.heap.get? b = some o := fun b z => let ⟨o, e⟩ := ex6 b z; h68.there b o e (fun q => q)
      have y2old : ∀ b, Y2 b → ∃ o, s₈.heap.get? b = some o := fun b y => T2.there _ _ st2 b (T2.sub b y)
      have S2 : Src prog w A (cEnv scope env C) target2 I2 Dp2 Y2 n2 B2 St2 := Src.of T2 (fun b d => by
        rintro (e | ⟨n, hn⟩)
        · exact cold2 b d (.inr (.inl e))
        · exact cold2 b d (.inr (.inr (.inr (.inr ⟨n, cl_sub hcell hn⟩))))) bd2
      have dy2 : ∀ b, Dp b → ¬ Y2 b := fun b d y => by
        obtain ⟨o, e⟩ := T.there _ _ st6 b d
        rw [y2n b y] at e; cases e
      have d2 : ¬ Y2 D := fun y => by
        obtain ⟨o, e⟩ := hD6.some
        rw [y2n D y] at e; cases e
      have after2 : ∀ s t, Step (fun b => b = D ∨ b = C ∨ Y b) s₂ s → Step (fun b => b = D ∨ b = C ∨ Y2 b) s t → Step (fun b => b = D ∨ b = C ∨ Y b) s₂ t := fun s t h h' => by
        refine (Step.trans (X := fun b => (b = D ∨ b = C ∨ Y b) ∨ Y2 b) (h.mono fun b e => .inl e) (h'.mono fun b e => e.elim (fun e => .inl (.inl e)) fun e => e.elim (fun e => .inl (.inr (.inl e))) .inr)).new fun b hb nb => ?_
        rcases hb with hb | y
        · exact absurd hb nb
        · cases e : s₂.heap.get? b with
          | none => rfl
          | some o =>
            obtain ⟨o', e'⟩ := h26.there b o e nb
            rw [y2n b y] at e'; cases e'
      refine wpAny_bind (wpAny_runOwn ?_)
      show codeAny (model prog w) A (.compStart (.ListComp elt [⟨target, iter, [], 0⟩, ⟨target2, iter2, ifs2, 0⟩] scope pos) 1 (.ref I2) (.ref D) (cEnv scope env C)) _ s₈
      refine comp_start1 ?_ (T2.self s₈ _ st2 ⟨rfl, rfl⟩)
      have st68 : St (i + 1) s₈ := T.stable _ _ _ _ st6 h68 (fun _ q => q.elim)
      refine comp_loop (pos := iter2.pos) (inner := do let _ ← call (.builtin "list.append") [.ref D, ← eval elt (cEnv scope env C)]) rfl S2
        (fun j s' => ∃ ys m'', J2 j ys s' ∧ IsL s' D ys ∧ Run (cEnv scope env C) s₀ m'' cm s' ∧ (∀ y, keep y = true → m'' y = m' y) ∧ Step (fun b => b = D ∨ b = C ∨ Y2 b) s₈ s' ∧ Step (fun b => b = D ∨ b = C ∨ Y b) s₂ s' ∧ (∀ b, Z b → ∃ o, s'.heap.get? b = some o) ∧ St (i + 1) s') st2
        ⟨ys, m', j20, hD8, R8, fun _ _ => rfl, Step.refl _ _, h26.trans h68.up, ex8, st68⟩ ?_ ?_
      · rintro jj s₉ hj ⟨zs, m₉, j9, hD9, R9, kp9, h89, h29, ex9, st9⟩
        refine ⟨m₉, cm, R9.act, fun m₁ s₁₀ hb2 F10 h10 st10 => ?_⟩
        have h10' : Step (fun b => b = D ∨ b = C ∨ Y2 b) s₉ s₁₀ := h10.mono fun b e => .inr e
        have R10 : Run (cEnv scope env C) s₀ m₁ cm s₁₀ := ⟨F10, (Step.trans R9.since.up h10).new (fun b hb _ => hb.elim (fun e => e ▸ F.newAt nC) fun y => R6.newAt (y2n _ y)), R9.new⟩
        have zy2 : ∀ b, (b = D ∨ b = C ∨ Y2 b) → (Z b ∨ Y2 b) := fun b e => e.elim (fun e => .inl (.inl e)) fun e => e.elim (fun e => .inl (.inr (.inl e))) .inr
        have j10 := stb2 _ _ _ _ j9 (h10'.mono zy2)
        have kp10 : ∀ y, keep y = true → m₁ y = m' y := fun y ky => (kp2 _ _ _ hb2 y ky).trans (kp9 y ky)
        have h2_10 := after2 _ _ h29 h10'
        have h8_10 := h89.trans h10'
        have ex10 : ∀ b, Z b → ∃ o, s₁₀.heap.get? b = some o := fun b z => by
          by_cases hx : b = (cEnv scope env C).locals ∨ Y2 b
          · rcases hx with rfl | y
            · obtain ⟨o, _, _, e, _⟩ := F10.ns; exact ⟨o, e⟩
            · exact T2.there _ _ st10 b (T2.sub b y)
          · obtain ⟨o, e⟩ := ex9 b z
            exact h10.there b o e hx
        have stO : St (i + 1) s₁₀ := T.stable _ _ _ _ st9 h10 (fun b hb d => hb.elim (fun e => (dold b d).2 e) fun y => dy2 b d y)
        have hD10 : IsL s₁₀ D zs := hD9.step h10 (fun q => q.elim (fun e => dc e) d2)
        refine wpAny_mono (turn2 jj zs m₁ s₁₀ hj j10 ⟨m₉, hb2⟩ kp10 R10 (h2_10.mono zr) ex10 (outer _ h2_10)) (fun ok s₁₁ h₁₁ => ?_) fun _ _ q => q
        obtain ⟨h11, h₁₁⟩ := h₁₁
        cases ok with
        | false =>
          simp only [Bool.false_eq_true, if_false] at h₁₁ ⊢
          exact ⟨⟨zs, m₁, h₁₁, hD10.step0 h11, R10.step0 h11, kp10, h8_10.trans h11.up, h2_10.trans h11.up, fun b z => let ⟨o, e⟩ := ex10 b z; h11.there b o e (fun q => q), T.stable _ _ _ _ stO h11 (fun _ q => q.elim)⟩, T2.stable _ _ _ _ st10 h11 (fun _ q => q.elim)⟩
        | true =>
          simp only [if_true] at h₁₁ ⊢
          refine wpAny_bind (wpAny_mono h₁₁ (fun y s₁₂ h₁₂ => wpAny_bind ?_) fun _ _ q => q)
          obtain ⟨h12, j12⟩ := h₁₂
          have h1112 := h11.trans h12
          have hD12 := hD10.step0 h1112
          have R12 := R10.step0 h1112
          refine op_append hD12 (Nat.le_of_lt (sz2 _ _ _ j10)) (fun s₁₃ hD13 h13 => wpAny_pure ?_)
          have h13' : Step (fun b => b = D ∨ b = C ∨ Y2 b) s₁₂ s₁₃ := h13.mono fun b e => .inl e
          refine ⟨⟨zs ++ [y], m₁, stb2 _ _ _ _ j12 (h13'.mono zy2), hD13, R12.stepX h13 (fun b e => e ▸ dh) (fun b e => e ▸ F.newAt nD), kp10, (h8_10.trans h1112.up).trans h13', (h2_10.trans h1112.up).trans (h13.mono fun b e => .inl e), fun b z => ?_, ?_⟩, ?_⟩
          · by_cases hx : b = D
            · exact hx ▸ hD13.some
            · obtain ⟨o, e⟩ := ex10 b z
              obtain ⟨o', e'⟩ := h1112.there b o e (fun q => q)
              exact h13.there b o' e' hx
          · exact T.stable _ _ _ _ (T.stable _ _ _ _ stO h1112 (fun _ q => q.elim)) h13 (fun b e d => (dold b d).1 e)
          · exact T2.stable _ _ _ _ (T2.stable _ _ _ _ st10 h1112 (fun _ q => q.elim)) h13 (fun b e d => cold2 b d (e ▸ zD))
      · rintro s₉ s₁₀ ⟨zs, m₉, j9, hD9, R9, kp9, h89, h29, ex9, st9⟩ h10
        have h10' : Step (fun b => b = D ∨ b = C ∨ Y2 b) s₉ s₁₀ := h10.mono fun b e => .inr (.inr e)
        have zy2 : ∀ b, (b = D ∨ b = C ∨ Y2 b) → (Z b ∨ Y2 b) := fun b e => e.elim (fun e => .inl (.inl e)) fun e => e.elim (fun e => .inl (.inr (.inl e))) .inr
        refine wpAny_pure ⟨rfl, ⟨zs, m₉, fin2 _ _ (stb2 _ _ _ _ j9 (h10'.mono zy2)), hD9.step h10 d2, R9.stepX h10 ?_ (fun b y => R6.newAt (y2n _ y)), after2 _ _ h29 h10', fun b z => ?_⟩, T.stable _ _ _ _ st9 h10 (fun b y d => dy2 b d y)⟩
        · rintro b y (e | ⟨n, hn⟩)
          · exact cold2 b (T2.sub b y) (.inr (.inl e))
          · exact cold2 b (T2.sub b y) (.inr (.inr (.inr (.inr ⟨n, cl_sub hcell hn⟩))))
        · obtain ⟨o, e⟩ := ex9 b z
          exact h10.there b o e fun y => cold2 b (T2.sub b y) z
    · rintro s₅ s₆ ⟨ys, m₅, j, hD5, R5, h5, ex⟩ h6
      have h6' : Step (fun b => b = D ∨ b = C ∨ Y b) s₅ s₆ := h6.mono fun b e => .inr (.inr e)
      have hns' := Ns.stepX R5.act.ns h6 fun y => (dold C (T.sub C y)).2 rfl
      refine ⟨m₅, hns', fun h'' hs'' => ?_⟩
      have s1 : Step (fun b => b = C) s₆ { s₆ with heap := h'' } := SameBut.step hns' hs''
      have s2 : Step (fun b => b = D ∨ b = C ∨ Y b) s₂ { s₆ with heap := h'' } := (h5.trans h6').trans (s1.mono fun b e => .inr (.inl e))
      refine fin D ys _ (BJ.stable _ _ _ _ (BJ.stable _ _ _ _ j (h6'.mono zr)) (s1.mono fun b e => e ▸ zC)) ((hD5.step h6 fun y => (dold D (T.sub D y)).1 rfl).step s1 dc) (h02.notThere nD) ((Step.trans h02.up s2).new fun b hb _ => ?_) (s2.mono zr)
      rcases hb with rfl | rfl | y
      · exact h02.notThere nD
      · exact h02.notThere nC
      · exact yn _ y
  show codeAny (model prog w) A (.compStart (.ListComp elt [⟨target, iter, [], 0⟩, ⟨target2, iter2, ifs2, 0⟩] scope pos) 0 (.ref I) (.ref D) (cEnv scope env C)) RR s₄
  exact codeAny_compStart_list loop (noE (T.self s₄ _ st4 loop))
end
end Mine
end
section
open PySem PySem.W PySem.W.X PyProof.Rows
namespace Mine
/-! the law's statements -/
noncomputable abbrev LE (P : Params) (L : Addr) : Env := EV 33 405 P L
noncomputable abbrev cl (P : Params) (L : Addr) (x : Str) : Addr := celA 33 405 P L x
abbrev stv (x : Str) (v : Value) (m : Str → Option Value) : Str → Option Value := fun y => if y = x then some v else m y
def IsNums (s : Shared) (na : Addr) (z : Nat → Int) : Prop := ∃ vs, IsL s na vs ∧ vs.length ≤ 1000 ∧ ∀ i, i < 18 → ∃ t, vs[i]? = some (.int (z i) t)
theorem IsNums.step {X : Addr → Prop} {s s' : Shared} {na z} (h : IsNums s na z) (st : Step X s s') (n : ¬ X na) : IsNums s' na z := let ⟨vs, a, b, c⟩ := h; ⟨vs, a.step st n, b, c⟩
theorem IsNums.step0 {s s' : Shared} {na z} (h : IsNums s na z) (st : Step0 s s') : IsNums s' na z := h.step st id
def wordsV (ts : Nat → Tok) : List Value := [.str "a" (ts 0), .str "B" (ts 1), .str "b" (ts 2), .str "A" (ts 3), .str "c" (ts 4), .str "C" (ts 5)]
theorem words_at (ts : Nat → Tok) (i : Nat) (h : i < 6) : ∃ v k, (wordsV ts)[i]? = some v ∧ IsThing v k ∧ k.int = false := by
  have go : ∀ (x : Str) (t : Tok) (c : List Nat), x.cps.toList = c → Letter c → IsThing (.str x t) (.s c) := fun x t c e l => ⟨⟨x, t, rfl, e⟩, fun c' e' => by cases e'; exact l⟩
  match i, h with
  | 0, _ => exact ⟨_, .s [97], rfl, go _ _ _ (by kernel_rfl) (by unfold Letter; simp), rfl⟩
  | 1, _ => exact ⟨_, .s [66], rfl, go _ _ _ (by kernel_rfl) (by unfold Letter; simp), rfl⟩
  | 2, _ => exact ⟨_, .s [98], rfl, go _ _ _ (by kernel_rfl) (by unfold Letter; simp), rfl⟩
  | 3, _ => exact ⟨_, .s [65], rfl, go _ _ _ (by kernel_rfl) (by unfold Letter; simp), rfl⟩
  | 4, _ => exact ⟨_, .s [99], rfl, go _ _ _ (by kernel_rfl) (by unfold Letter; simp), rfl⟩
  | 5, _ => exact ⟨_, .s [67], rfl, go _ _ _ (by kernel_rfl) (by unfold Letter; simp), rfl⟩
section
variable {prog : Program} {w : World} {A : Around} {s s₀ : Shared} {L : Addr} {m cm : Str → Option Value} {Q : Flow → Shared → Prop}
theorem assign2 {env : Env} {a b : Str} {pa pb pos : Pos} {k : Nat} {T : Addr} {x y : Value} {Q : Unit → Shared → Prop} (hh : A.handled = none) (F : Run env s₀ m cm s) (ht : IsT s T [x, y])
    (h : ∀ s', Step0 s s' → Run env s₀ m cm s' → wpAny (model prog w) A (storeName env a x) (fun _ s₂ => wpAny (model prog w) A (storeName env b y) Q NoE s₂) NoE s') :
    wpAny (model prog w) A (assign (.Tuple [.Name a pa, .Name b pb] k pos) env (.ref T)) Q NoE s := by
  have ht' : s.heap.IsTuple T #[x, y] := ⟨_, ht, rfl, 0, rfl⟩
  refine wpAny_assign_Tuple hh ht' rfl rfl fun h' hx => ?_
  have st : Step0 s { s with heap := h' } := Step.of_extBut hx
  refine wpAny_inOrder_cons (wpAny_assign_Name (wpAny_mono (h _ st (F.step0 st)) (fun _ s₂ q => ?_) fun _ _ q => q))
  exact wpAny_inOrder_cons (wpAny_assign_Name (wpAny_mono q (fun _ s₃ q => wpAny_inOrder_nil q) fun _ _ q => q))
theorem assign3 {env : Env} {a b c : Str} {pa pb pc pos : Pos} {k : Nat} {T : Addr} {x y z : Value} {Q : Unit → Shared → Prop} (hh : A.handled = none) (F : Run env s₀ m cm s) (ht : IsT s T [x, y, z])
    (h : ∀ s', Step0 s s' → Run env s₀ m cm s' → wpAny (model prog w) A (storeName env a x) (fun _ s₂ => wpAny (model prog w) A (storeName env b y) (fun _ s₃ => wpAny (model prog w) A (storeName env c z) Q NoE s₃) NoE s₂) NoE s') :
    wpAny (model prog w) A (assign (.Tuple [.Name a pa, .Name b pb, .Name c pc] k pos) env (.ref T)) Q NoE s := by
  have ht' : s.heap.IsTuple T #[x, y, z] := ⟨_, ht, rfl, 0, rfl⟩
  refine wpAny_assign_Tuple hh ht' rfl rfl fun h' hx => ?_
  have st : Step0 s { s with heap := h' } := Step.of_extBut hx
  refine wpAny_inOrder_cons (wpAny_assign_Name (wpAny_mono (h _ st (F.step0 st)) (fun _ s₂ q => ?_) fun _ _ q => q))
  refine wpAny_inOrder_cons (wpAny_assign_Name (wpAny_mono q (fun _ s₃ q => ?_) fun _ _ q => q))
  exact wpAny_inOrder_cons (wpAny_assign_Name (wpAny_mono q (fun _ s₃ q => wpAny_inOrder_nil q) fun _ _ q => q))
theorem op_newT {vs : List Value} {Q : Value → Shared → Prop} (hz : vs.length ≤ 1000) (k : ∀ T s', Step0 s s' → IsT s' T vs → s.heap.get? T = none → Q (.ref T) s') : wpAny (model prog w) A (newTuple vs) Q NoE s :=
  wpAny_newTuple (k _ _ (Step0.push _ _) (Heap.get?_push_size _ rfl) (Heap.get?_none_of_le (Nat.le_refl _))) (Nat.le_trans hz (by decide))
/-- numbers = script[:18] + [0] * 18 -/
theorem c_s0 {sc : Addr} {xs : List Value} (X : (KP w.params).In s₀.heap) (F : Run (LE w.params L) s₀ m cm s) (R : Rm A 600 900) (hm : m "script" = some (.ref sc)) (hx : IsL s sc xs) (hz : xs.length ≤ 900) (hi : ∀ v ∈ xs, ∃ n t, v = .int n t)
    (k : ∀ na z s', Run (LE w.params L) s₀ m (stv "numbers" (.ref na) cm) s' → Step (Hot (LE w.params L)) s s' → IsNums s' na z → ¬ Hot (LE w.params L) na → Q .next s') :
    wpAny (model prog w) A (exec (inAt 33 0) (LE w.params L)) Q NoE s := by
  refine wpAny_Assign_Name (wpAny_BinOp (sub_slice (g_ld F hm (wpAny_pure ?_))))
  show wpAny (model prog w) A (eval _ _) _ _ _
  refine g_int fun t s2 h2 => ⟨sc, xs, none, some ((18 : Nat) : Int), rfl, hx.step0 h2, by omega, .none, .int _ _, fun r s3 h3 hr nr => ?_⟩
  have F3 := (F.step0 h2).step0 h3
  rw [pick_upto] at hr
  refine wpAny_BinOp (List_ (spliced_more (g_int fun t4 s4 h4 => spliced_none (op_newList (by simp) (fun l s5 h5 hl nl _ => ?_) (size_ge ((F3.step0 h4).K X))))))
  have F5 := (F3.step0 h4).step0 h5
  refine g_int fun t6 s6 h6 => op_mulL (hl.step0 h6) (by decide) (by decide) (by simp) fun q s7 h7 hq nq => ?_
  have F7 := (F5.step0 h6).step0 h7
  have hr7 := (((hr.step0 h4).step0 h5).step0 h6).step0 h7
  refine op_addL R.mono hr7 hq (by simp; omega) fun na s8 h8 hna nna => ?_
  have F8 := F7.step0 h8
  refine g_stc F8 (c := cl w.params L "numbers") (by kernel_rfl) fun s9 F9 h9 => ?_
  have st := (((h2.trans h3).trans ((h4.trans h5).trans (h6.trans h7))).trans h8)
  have cold := F7.hotAt nna
  generalize hvs : xs.take 18 ++ (List.replicate (18 : Int).toNat [Value.int 0 t4]).flatten = vs at hna
  have hlen : vs.length ≤ 1000 := by rw [← hvs]; simp; omega
  have key : ∀ i, i < 18 → ∃ n t, vs[i]? = some (.int n t) := fun i h => by
    have hlt : i < vs.length := by rw [← hvs]; simp; omega
    have hmem : vs[i] ∈ vs := List.getElem_mem hlt
    have : ∃ n t, vs[i] = .int n t := by
      generalize vs[i] = v at hmem
      rw [← hvs] at hmem
      rcases List.mem_append.mp hmem with h | h
      · exact hi v (List.mem_of_mem_take h)
      · obtain ⟨l, hl, hv⟩ := List.mem_flatten.mp h
        rw [List.eq_of_mem_replicate hl, List.mem_singleton] at hv
        exact ⟨0, t4, hv⟩
    obtain ⟨n, t, e⟩ := this
    exact ⟨n, t, by rw [List.getElem?_eq_getElem hlt, e]⟩
  refine k na (fun i => match vs[i]? with | some (.int n _) => n | _ => 0) s9 F9 (st.up.trans h9) ⟨vs, hna.step h9 cold, hlen, fun i h => ?_⟩ cold
  obtain ⟨n, t, e⟩ := key i h
  exact ⟨t, by simp only [e]⟩
/-- numbers[k] -/
theorem g_num {na : Addr} {z : Nat → Int} {j : Nat} {pos pos2 : Pos} {kk : Nat} {p3 : Pos} {Q : Value → Shared → Prop} {env : Env} (c : Addr) (F : Run env s₀ m cm s) (c1 : cm "numbers" = some (.ref na)) (hn : IsNums s na z) (hj : j < 18)
    (h : ∀ t s', Step0 s s' → Q (.int (z j) t) s') (hc : env.cells.lookup ("numbers" : Str) = some c := by kernel_rfl) (hk : env.scope.kind = .function := by kernel_rfl) (hl : env.kindOf "numbers" = some .cell := by kernel_rfl) :
    wpAny (model prog w) A (eval (.Subscript (.Name "numbers" pos2) (.Constant (.int (j : Nat)) kk p3) pos) env) Q NoE s := by
  refine Subscript_ (g_ldc F hc c1 (g_int fun t s2 h2 => ?_) hk hl)
  obtain ⟨vs, a, b, c⟩ := hn
  obtain ⟨t', e⟩ := c j hj
  exact sub_item (a.step0 h2) e b (h t' s2 h2) rfl
theorem fmod_at (a : Int) (n : Nat) (h : 0 < n) : ∃ r : Nat, a.fmod n = r ∧ r < n := by
  have h0 : 0 ≤ a.fmod n := Int.fmod_nonneg_of_pos _ (by omega)
  have h1 : a.fmod n < n := Int.fmod_lt_of_pos _ (by omega)
  obtain ⟨r, e⟩ := Int.eq_ofNat_of_zero_le h0
  exact ⟨r, e, by omega⟩
/-- size, kind, pieces = .. -/
theorem c_s1 {na : Addr} {z : Nat → Int} (F : Run (LE w.params L) s₀ m cm s) (R : Rm A 600 900) (c1 : cm "numbers" = some (.ref na)) (hn : IsNums s na z)
    (k : ∀ (sz kd p : Nat) (t1 t2 t3 : Tok) s', sz ≤ 9 → 1 ≤ p → p ≤ 4 → Run (LE w.params L) s₀ m (stv "pieces" (.int p t3) (stv "kind" (.int kd t2) (stv "size" (.int sz t1) cm))) s' → Step (Hot (LE w.params L)) s s' → Q .next s') :
    wpAny (model prog w) A (exec (inAt 33 1) (LE w.params L)) Q NoE s := by
  obtain ⟨sz, e0, l0⟩ := fmod_at (z 0) 10 (by decide)
  obtain ⟨kd, e1, _⟩ := fmod_at (z 1) 3 (by decide)
  obtain ⟨p, e2, l2⟩ := fmod_at (z 2) 4 (by decide)
  refine Assign_Tuple (Tuple_ (spliced_more (wpAny_BinOp (g_num (j := 0) (cl w.params L "numbers") F c1 hn (by decide) fun t s2 h2 => g_int fun t3 s3 h3 => op_modi (by decide) fun t4 s4 h4 => ?_))))
  rw [show (z 0).fmod 10 = (sz : Int) from e0]
  have st4 := h2.trans (h3.trans h4)
  refine spliced_more (wpAny_BinOp (g_num (j := 1) (cl w.params L "numbers") (F.step0 st4) c1 (hn.step0 st4) (by decide) fun t5 s5 h5 => g_int fun t6 s6 h6 => op_modi (by decide) fun t7 s7 h7 => ?_))
  rw [show (z 1).fmod 3 = (kd : Int) from e1]
  have st7 := st4.trans (h5.trans (h6.trans h7))
  refine spliced_more (wpAny_BinOp (g_int fun t8 s8 h8 => wpAny_BinOp (g_num (j := 2) (cl w.params L "numbers") (F.step0 (st7.trans h8)) c1 (hn.step0 (st7.trans h8)) (by decide) fun t9 s9 h9 => g_int fun t10 s10 h10 => op_modi (by decide) fun t11 s11 h11 => op_addi fun t12 s12 h12 => spliced_none ?_)))
  rw [show (1 : Int) + (z 2).fmod 4 = ((1 + p : Nat) : Int) from by rw [show (z 2).fmod 4 = (p : Int) from e2]; omega]
  have st12 := st7.trans (h8.trans (h9.trans (h10.trans (h11.trans h12))))
  refine op_newT (by simp) fun T s13 h13 hT nT => assign3 R.handled (F.step0 (st12.trans h13)) hT fun s14 h14 F14 => ?_
  refine g_stc F14 (c := cl w.params L "size") (by kernel_rfl) fun s15 F15 h15 => g_stc F15 (c := cl w.params L "kind") (by kernel_rfl) fun s16 F16 h16 => g_stc F16 (c := cl w.params L "pieces") (by kernel_rfl) fun s17 F17 h17 => ?_
  exact k sz kd (1 + p) _ _ _ s17 (by omega) (by omega) (by omega) F17 (((st12.trans (h13.trans h14)).up.trans h15).trans (h16.trans h17))
/-- back, exact = .. -/
theorem c_s2 {na : Addr} {z : Nat → Int} (F : Run (LE w.params L) s₀ m cm s) (R : Rm A 600 900) (c1 : cm "numbers" = some (.ref na)) (hn : IsNums s na z)
    (k : ∀ (back exact : Bool) s', Run (LE w.params L) s₀ (stv "back" (.bool back) m) (stv "exact" (.bool exact) cm) s' → Step (Hot (LE w.params L)) s s' → Q .next s') :
    wpAny (model prog w) A (exec (inAt 33 2) (LE w.params L)) Q NoE s := by
  refine Assign_Tuple (Tuple_ (spliced_more (wpAny_Compare1 (wpAny_BinOp (wpAny_BinOp (g_num (j := 0) (cl w.params L "numbers") F c1 hn (by decide) fun t s2 h2 => g_int fun t3 s3 h3 => op_divi (by decide) (PyProof.noPylong_of_log2 (by decide +kernel)) fun t4 s4 h4 => g_int fun t5 s5 h5 => op_modi (by decide) fun t6 s6 h6 => g_int fun t7 s7 h7 => cmp_eq (a := .i _) (b := .i 1) ⟨_, rfl⟩ ⟨_, rfl⟩ rfl ?_))))))
  have st7 := h2.trans (h3.trans (h4.trans (h5.trans (h6.trans h7))))
  generalize decide (Key.i (((z 0).fdiv 10).fmod 2) = Key.i 1) = back
  refine spliced_more (wpAny_Compare1 (wpAny_BinOp (wpAny_BinOp (g_num (j := 0) (cl w.params L "numbers") (F.step0 st7) c1 (hn.step0 st7) (by decide) fun t8 s8 h8 => g_int fun t9 s9 h9 => op_divi (by decide) (PyProof.noPylong_of_log2 (by decide +kernel)) fun t10 s10 h10 => g_int fun t11 s11 h11 => op_modi (by decide) fun t12 s12 h12 => g_int fun t13 s13 h13 => cmp_eq (a := .i _) (b := .i 1) ⟨_, rfl⟩ ⟨_, rfl⟩ rfl ?_))))
  have st13 := st7.trans (h8.trans (h9.trans (h10.trans (h11.trans (h12.trans h13)))))
  generalize decide (Key.i (((z 0).fdiv 20).fmod 2) = Key.i 1) = exact
  refine spliced_none (op_newT (by simp) fun T s14 h14 hT nT => assign2 R.handled (F.step0 (st13.trans h14)) hT fun s15 h15 F15 => ?_)
  refine g_st F15 fun s16 F16 h16 => g_stc F16 (c := cl w.params L "exact") (by kernel_rfl) fun s17 F17 h17 => ?_
  exact k back exact s17 F17 ((st13.trans (h14.trans h15)).up.trans (h16.trans h17))
/-- words -/
theorem c_s3 (X : (KP w.params).In s₀.heap) (F : Run (LE w.params L) s₀ m cm s)
    (k : ∀ wa ts s', Run (LE w.params L) s₀ m (stv "words" (.ref wa) cm) s' → Step (Hot (LE w.params L)) s s' → IsL s' wa (wordsV ts) → ¬ Hot (LE w.params L) wa → Q .next s') :
    wpAny (model prog w) A (exec (inAt 33 3) (LE w.params L)) Q NoE s := by
  refine wpAny_Assign_Name (List_ (spliced_more (g_str fun t1 s1 h1 => spliced_more (g_str fun t2 s2 h2 => spliced_more (g_str fun t3 s3 h3 => spliced_more (g_str fun t4 s4 h4 => spliced_more (g_str fun t5 s5 h5 => spliced_more (g_str fun t6 s6 h6 => spliced_none ?_))))))))
  have st := h1.trans (h2.trans (h3.trans (h4.trans (h5.trans h6))))
  have F6 := F.step0 st
  refine op_newList (by simp) (fun wa s7 h7 hw nw _ => ?_) (size_ge (F6.K X))
  refine g_stc (F6.step0 h7) (c := cl w.params L "words") (by kernel_rfl) fun s8 F8 h8 => ?_
  have c := F6.hotAt nw
  exact k wa (fun i => [t1, t2, t3, t4, t5, t6].getD i 0) s8 F8 ((st.trans h7).up.trans h8) (hw.step h8 c) c
end
end Mine
end
section
open PySem PySem.W PySem.W.X PyProof.Rows
namespace Mine
/-- the key that a value is -/
def keyV : Value → Key
  | .int n _ => .i n
  | .str x _ => .s x.cps.toList
  | _ => .i 0
theorem IsKey.keyV {v : Value} {k : Key} (h : IsKey v k) : keyV v = k := by
  cases k with
  | i n => obtain ⟨t, rfl⟩ := h; rfl
  | s c => obtain ⟨x, t, rfl, rfl⟩ := h; rfl
/-- a row of things of one kind -/
structure Things (T : List Value) (ib : Bool) : Prop where
  thing : ∀ v ∈ T, IsThing v (keyV v)
  int : ∀ v ∈ T, (keyV v).int = ib
section
variable {prog : Program} {w : World} {A : Around} {s s₀ : Shared} {L : Addr} {m cm : Str → Option Value} {Q : Flow → Shared → Prop}
theorem cw_cls0 {P : Params} {M : Model} {E : Value → Shared → Prop} {pos : Pos} {Q : Value → Shared → Prop} {env : Env} {a : Addr} {first : List Value} (X : (KP P).In s.heap) (hk : keepIn (KP P) (.ref a) = true) (h : wpAny M A (call (.ref a) (first ++ [])) Q E s) :
    wpAny M A (callWith pos (.ref a) first (backTo pos (starEach [] env)) []) Q E s :=
  callWith_of (P := (KP P).In) rfl (fun h hp => keeps_K hk h hp) (evalArgs_nil3 ⟨X, h⟩)
/-- things = [numbers[4 + k] % 5 - 2 if kind == 1 else words[numbers[4 + k] % 6] for k in range(size)] -/
theorem c_s4 {na wa : Addr} {z : Nat → Int} {ts : Nat → Tok} {sz kd : Nat} {t1 t2 : Tok} (X : (KP w.params).In s₀.heap) (F : Run (LE w.params L) s₀ m cm s) (R : Rm A 600 900) (c1 : cm "numbers" = some (.ref na)) (c2 : cm "size" = some (.int sz t1)) (c3 : cm "kind" = some (.int kd t2)) (c4 : cm "words" = some (.ref wa))
    (hn : IsNums s na z) (nn : ¬ Hot (LE w.params L) na) (hw : IsL s wa (wordsV ts)) (nw : ¬ Hot (LE w.params L) wa) (hsz : sz ≤ 9)
    (k : ∀ ta T s', Run (LE w.params L) s₀ (stv "things" (.ref ta) m) cm s' → Step (Hot (LE w.params L)) s s' → IsL s' ta T → ¬ Hot (LE w.params L) ta → T.length = sz → Things T (decide (kd = 1)) → Q .next s') :
    wpAny (model prog w) A (exec (inAt 33 4) (LE w.params L)) Q NoE s := by
  refine comp_pureA X F (Call_ (g_built F X (.type "range") (cw_type (spliced_more (g_ldc F (c := cl w.params L "size") (by kernel_rfl) c2 (spliced_none (clause_range R.handled X F (Step.refl _ _) (by omega) (fun C => by kernel_rfl) (fun C => by kernel_rfl) fun I s₂ V St cla => ⟨I, _, _, sz, V, _, St, fun i y => IsThing y (keyV y) ∧ (keyV y).int = decide (kd = 1), cla, ?_, fun D ys s' hD hl hG nD R' h' => ?_⟩)))))))
  · rintro i C mm m' s3 hi ⟨v, ⟨ti, rfl⟩, rfl⟩ F3 st3
    have hn3 := hn.step st3 nn
    refine wpAny_IfExp (wpAny_isTrue_Compare1 (g_ldc F3 (c := cl w.params L "kind") (by kernel_rfl) c3 (g_int fun t4 s4 h4 => cmp_eq (a := .i kd) (b := .i 1) ⟨_, rfl⟩ ⟨_, rfl⟩ rfl (wpAny_truthy_bool ?_))))
    have hdec : decide (Key.i kd = Key.i 1) = decide (kd = 1) := by
      rw [Bool.eq_iff_iff]; simp; omega
    rw [hdec]
    have F4 := F3.step0 h4
    have idx : (4 : Int) + (i : Int) = ((4 + i : Nat) : Int) := by omega
    have num : ∀ {s5 : Shared} {slice value : Expr} {tt : Tok} {Q' : Value → Shared → Prop}, Step0 s3 s5 → (∀ t, Q' (.int (z (4 + i)) t) s5) → subscripted slice false (.ref na) (.int ((4 + i : Nat) : Int) tt) = operate [.int ((4 + i : Nat) : Int) tt, .ref na] (getItem (.ref na) (.int ((4 + i : Nat) : Int) tt)) →
        wpAny (model prog w) A (subscriptTail value slice (.ref na) (.int ((4 + i : Nat) : Int) tt)) Q' NoE s5 := fun h5 q hs => by
      obtain ⟨vs, a, b, c⟩ := hn3
      obtain ⟨t', e⟩ := c (4 + i) (by omega)
      exact sub_item (a.step0 h5) e b (q t') hs
    by_cases hk : kd = 1
    · rw [show decide (kd = 1) = true from decide_eq_true hk]
      simp only [if_true]
      refine wpAny_BinOp (wpAny_BinOp (Subscript_ (g_ldc F4 (c := cl w.params L "numbers") (by kernel_rfl) c1 (wpAny_BinOp (g_int fun t5 s5 h5 => g_ld (F4.step0 h5) putN (op_addi fun t6 s6 h6 => ?_))))))
      rw [idx]
      refine num (h4.trans (h5.trans h6)) (fun t7 => g_int fun t8 s8 h8 => op_modi (by decide) fun t9 s9 h9 => g_int fun t10 s10 h10 => op_subi fun t11 s11 h11 => ?_) rfl
      exact ⟨h4.trans (h5.trans (h6.trans (h8.trans (h9.trans (h10.trans h11))))), ⟨⟨t11, rfl⟩, fun c e => by cases e⟩, rfl⟩
    · rw [show decide (kd = 1) = false from decide_eq_false hk]
      simp only [Bool.false_eq_true, if_false]
      refine Subscript_ (g_ldc F4 (c := cl w.params L "words") (by kernel_rfl) c4 (wpAny_BinOp (Subscript_ (g_ldc F4 (c := cl w.params L "numbers") (by kernel_rfl) c1 (wpAny_BinOp (g_int fun t5 s5 h5 => g_ld (F4.step0 h5) putN (op_addi fun t6 s6 h6 => ?_)))))))
      rw [idx]
      refine num (h4.trans (h5.trans h6)) (fun t7 => g_int fun t8 s8 h8 => op_modi (by decide) fun t9 s9 h9 => ?_) rfl
      obtain ⟨r, er, lr⟩ := fmod_at (z (4 + i)) 6 (by decide)
      rw [show (z (4 + i)).fmod 6 = (r : Int) from er]
      obtain ⟨v, k', e1, e2, e3⟩ := words_at ts r lr
      have st9 : Step0 s3 s9 := h4.trans (h5.trans (h6.trans (h8.trans h9)))
      refine sub_item ((hw.step st3 nw).step0 st9) e1 (by simp [wordsV]) ⟨st9, ?_⟩ rfl
      rw [e2.1.keyV]
      exact ⟨e2, e3⟩
  · refine k D ys s' R' h' hD (F.hotAt nD) hl ⟨fun v hv => ?_, fun v hv => ?_⟩
    · obtain ⟨i, e⟩ := List.getElem?_of_mem hv
      exact (hG i v e).1
    · obtain ⟨i, e⟩ := List.getElem?_of_mem hv
      exact (hG i v e).2
end
section
variable {w : World} {A : Around} {s s₀ : Shared} {L : Addr} {m cm : Str → Option Value} {Q : Flow → Shared → Prop}
/-- world = ValueEnvironment() -/
theorem c_s5 (X : (KP w.params).In s₀.heap) (F : Run (LE w.params L) s₀ m cm s) (R : Rm A 600 900)
    (k : ∀ wd d s', Run (LE w.params L) s₀ (stv "world" (.ref wd) m) cm s' → Step (Hot (LE w.params L)) s s' → WorldAt s' wd d → ¬ Hot (LE w.params L) wd → ¬ Hot (LE w.params L) d → Q .next s') :
    wpAny (model prog0 w) A (exec (inAt 33 5) (LE w.params L)) Q NoE s := by
  refine wpAny_Assign_Name (Call_ (g_glob F X (.ref 379) (cw_cls0 (F.K X) (by kernel_rfl) ?_)))
  refine c_world R.mono (F.K X) fun x d s2 h2 hw nx nd => ?_
  refine g_st (F.step0 h2) fun s3 F3 h3 => ?_
  exact k x d s3 F3 (h2.up.trans h3) (hw.step h3 (F.hotAt nx) (F.hotAt nd)) (F.hotAt nx) (F.hotAt nd)
end
end Mine
end
section
open PySem PySem.W PySem.W.X PyProof.Rows
namespace Mine
/-! batches and slices, plainly -/
theorem chunk_len (p : Nat) (xs : List Value) (j : Nat) : (chunk p xs j).length = min p (xs.length - j * p) := by unfold chunk; simp
theorem chunk_flat (p : Nat) (xs : List Value) : ∀ k, ((List.range k).map (chunk p xs)).flatten = xs.take (k * p)
  | 0 => by simp
  | k + 1 => by
    rw [List.range_succ, List.map_append, List.flatten_append, chunk_flat p xs k, Nat.succ_mul, List.take_add]
    simp [chunk]
theorem batchN_zero (p : Nat) : batchN p 0 = 0 := by simp [batchN]
theorem batchN_pos {p n : Nat} (h : 0 < n) : batchN p n = (n - 1) / p + 1 := by unfold batchN; rw [if_neg (by omega)]
theorem batchN_ge {p n : Nat} (hp : 1 ≤ p) : n ≤ batchN p n * p := by
  by_cases h : n = 0
  · omega
  · rw [batchN_pos (by omega), Nat.succ_mul]
    have := Nat.lt_div_mul_add (a := n - 1) (b := p) (by omega)
    omega
theorem batchN_full {p n j : Nat} (hp : 1 ≤ p) (h : j + 1 < batchN p n) : (j + 1) * p ≤ n := by
  by_cases h0 : n = 0
  · rw [h0, batchN_zero] at h; omega
  · rw [batchN_pos (by omega)] at h
    have := (Nat.le_div_iff_mul_le (by omega)).mp (show j + 1 ≤ (n - 1) / p by omega)
    omega
theorem batchN_some {p n j : Nat} (hp : 1 ≤ p) (h : j < batchN p n) : j * p < n := by
  by_cases h0 : n = 0
  · rw [h0, batchN_zero] at h; omega
  · rw [batchN_pos (by omega)] at h
    have := (Nat.le_div_iff_mul_le (by omega)).mp (show j ≤ (n - 1) / p by omega)
    omega
theorem batchN_le {p n : Nat} : batchN p n ≤ n := by
  by_cases h0 : n = 0
  · rw [h0, batchN_zero]; exact Nat.le_refl _
  · rw [batchN_pos (by omega)]
    have := Nat.div_le_self (n - 1) p
    omega
def batchL (p : Nat) (fv : Value) (xs : List Value) : List (List Value) := (List.range (batchN p xs.length)).map fun j => padTo p fv (chunk p xs j)
theorem padTo_none (p : Nat) (l : List Value) : padTo p .none l = l := by unfold padTo; rw [if_pos rfl]
theorem batchL_flat {p : Nat} (hp : 1 ≤ p) (xs : List Value) : (batchL p .none xs).flatten = xs := by
  unfold batchL
  simp only [padTo_none]
  rw [chunk_flat, List.take_of_length_le (batchN_ge hp)]
theorem batchL_len (p : Nat) (fv : Value) (xs : List Value) : (batchL p fv xs).length = batchN p xs.length := by unfold batchL; simp
theorem batchL_at {p : Nat} {fv : Value} {xs : List Value} {j : Nat} (h : j < batchN p xs.length) : (batchL p fv xs)[j]? = some (padTo p fv (chunk p xs j)) := by
  unfold batchL
  rw [List.getElem?_map, List.getElem?_range h]; rfl
theorem chunk_whole {p : Nat} {xs : List Value} {j : Nat} (hp : 1 ≤ p) (h : j + 1 < batchN p xs.length) : (chunk p xs j).length = p := by
  have := batchN_full hp h
  rw [Nat.succ_mul] at this
  rw [chunk_len]; omega
theorem chunk_any {p : Nat} {xs : List Value} {j : Nat} (hp : 1 ≤ p) (h : j < batchN p xs.length) : 0 < (chunk p xs j).length ∧ (chunk p xs j).length ≤ p := by
  have := batchN_some hp h
  rw [chunk_len]; omega
def sliceL (p : Nat) (xs : List Value) : List (List Value) := (List.range p).map (sliceAt p xs)
theorem sliceLo_mono (p n j : Nat) : sliceLo p n j ≤ sliceLo p n (j + 1) := by
  unfold sliceLo
  rw [Nat.succ_mul]
  generalize n / p = q
  generalize n % p = r
  generalize j * q = z
  omega
theorem slice_flat (p : Nat) (xs : List Value) : ∀ k, ((List.range k).map (sliceAt p xs)).flatten = xs.take (sliceLo p xs.length k)
  | 0 => by simp [sliceLo]
  | k + 1 => by
    rw [List.range_succ, List.map_append, List.flatten_append, slice_flat p xs k]
    have h := sliceLo_mono p xs.length k
    have e : sliceLo p xs.length (k + 1) = sliceLo p xs.length k + (sliceLo p xs.length (k + 1) - sliceLo p xs.length k) := by omega
    conv => rhs; rw [e, List.take_add]
    simp [sliceAt]
theorem sliceLo_end {p n : Nat} (hp : 1 ≤ p) : sliceLo p n p = n := by
  unfold sliceLo
  have h1 := Nat.mod_lt n (show 0 < p by omega)
  have h2 := Nat.div_add_mod n p
  rw [Nat.min_eq_right (by omega)]
  omega
theorem sliceL_flat {p : Nat} (hp : 1 ≤ p) (xs : List Value) : (sliceL p xs).flatten = xs := by
  unfold sliceL
  rw [slice_flat, sliceLo_end hp, List.take_length]
theorem sliceAt_len {p : Nat} {xs : List Value} {j : Nat} (hp : 1 ≤ p) (h : j < p) : (sliceAt p xs j).length = xs.length / p + (if j < xs.length % p then 1 else 0) := by
  have h1 := sliceLo_le (n := xs.length) (j := j + 1) hp h
  have h2 := sliceLo_mono p xs.length j
  unfold sliceAt
  rw [List.length_take, List.length_drop]
  have e : sliceLo p xs.length (j + 1) - sliceLo p xs.length j = xs.length / p + (if j < xs.length % p then 1 else 0) := by
    unfold sliceLo
    rw [Nat.succ_mul]
    generalize xs.length / p = q
    generalize xs.length % p = r
    generalize j * q = z
    split <;> omega
  rw [← e]
  omega
theorem even_at {p : Nat} {xs : List Value} {j : Nat} (h : xs.length % p = 0) : chunk (xs.length / p) xs j = sliceAt p xs j := by
  unfold chunk sliceAt sliceLo
  rw [h, Nat.min_zero, Nat.min_zero, Nat.succ_mul]
  simp
theorem even_N {p n : Nat} (hp : 1 ≤ p) (hn : 0 < n) (h : n % p = 0) : batchN (n / p) n = p := by
  have e : p * (n / p) = n := by have := Nat.div_add_mod n p; omega
  have q : 0 < n / p := by
    rcases Nat.eq_zero_or_pos (n / p) with z | z
    · rw [z] at e; omega
    · exact z
  rw [batchN_pos hn]
  generalize n / p = d at e q
  obtain ⟨r, rfl⟩ : ∃ r, p = r + 1 := ⟨p - 1, by omega⟩
  have e2 : n - 1 = r * d + (d - 1) := by rw [← e, Nat.succ_mul]; omega
  rw [e2, Nat.add_comm (r * d), Nat.add_mul_div_right _ _ q, Nat.div_eq_of_lt (by omega)]
  omega
theorem pick_init (vs : List Value) : kms_pick vs none (some (-1)) = vs.dropLast := by
  unfold kms_pick kms_lo kms_hi
  simp only [show ((-1 : Int) < 0) = True from by simp, if_true]
  rw [List.dropLast_eq_take]
  simp only [List.drop_zero]
  congr 1
end Mine
end
section
open PySem PySem.W PySem.W.X PyProof.Rows
namespace Mine
theorem batchN_one {p n : Nat} (h : 0 < n) : 1 ≤ batchN p n := by rw [batchN_pos h]; exact Nat.succ_pos _
theorem IsL.hot {env : Env} {m cm} {s s' : Shared} {a : Addr} {xs : List Value} (h : IsL s a xs) (F : Act env m cm s) (st : Step (Hot env) s s') : IsL s' a xs := h.step st fun q => F.notList q h
theorem Act.notTup {env : Env} {m cm} {s : Shared} (F : Act env m cm s) {b : Addr} {xs : List Value} (h : Hot env b) : ¬ IsT s b xs := by
  intro e
  rcases h with rfl | ⟨n, hn⟩
  · obtain ⟨o, es, ep, e', d, _⟩ := F.ns
    have := e.symm.trans e'
    cases this; cases d
  · obtain ⟨o, e', d⟩ := F.cell n b hn
    have := e.symm.trans e'
    cases this; cases d
theorem IsT.hot {env : Env} {m cm} {s s' : Shared} {a : Addr} {xs : List Value} (h : IsT s a xs) (F : Act env m cm s) (st : Step (Hot env) s s') : IsT s' a xs := h.step st fun q => F.notTup q h
theorem Rows.hot {env : Env} {m cm} {s s' : Shared} {l : Addr} {xss} (h : Mine.Rows s l xss) (F : Act env m cm s) (st : Step (Hot env) s s') : Mine.Rows s' l xss := by
  obtain ⟨rs, hl, hn, hr⟩ := h
  exact ⟨rs, hl.hot F st, hn, fun k r xs h1 h2 => (hr k r xs h1 h2).hot F st⟩
theorem rows_of {S : Addr} {f : Nat → List Value} {ys : List Value} {N : Nat} {s : Shared} (hl : IsL s S ys) (hn : ys.length = N) (h : LsAt S f ys s.heap) : Mine.Rows s S ((List.range N).map f) := by
  have e : ys = (ys.map fun y => match y with | .ref r => r | _ => 0).map Value.ref := by
    apply List.ext_getElem (by simp)
    intro i h1 h2
    obtain ⟨r, n, e, _⟩ := h i ys[i] (by simp [h1])
    simp [e]
  refine ⟨_, e ▸ hl, by simp [hn], fun k r xs h1 h2 => ?_⟩
  have hk : k < ys.length := by have := (List.getElem?_eq_some_iff.mp h1).1; simpa using this
  obtain ⟨r', n, e', _, hr⟩ := h k ys[k] (by simp [hk])
  have e2 : r = r' := by
    rw [List.getElem?_map, List.getElem?_eq_getElem hk, e'] at h1
    simpa using h1.symm
  have e3 : xs = f k := by
    rw [List.getElem?_map, List.getElem?_range (by omega)] at h2
    simpa using h2.symm
  rw [e2, e3]; exact ⟨n, hr⟩
theorem Rows.at {s : Shared} {l : Addr} {xss : List (List Value)} (h : Mine.Rows s l xss) : ∃ rs : List Addr, IsL s l (rs.map .ref) ∧ rs.length = xss.length ∧ ∀ (k : Nat) (r : Addr), rs[k]? = some r → ∃ xs, xss[k]? = some xs ∧ IsL s r xs := by
  obtain ⟨rs, hl, hn, hr⟩ := h
  refine ⟨rs, hl, hn, fun k r e => ?_⟩
  have hk : k < xss.length := by rw [← hn]; exact (List.getElem?_eq_some_iff.mp e).1
  exact ⟨xss[k], by simp [hk], hr k r _ e (by simp [hk])⟩
section
variable {prog : Program} {w : World} {A : Around} {s s₀ : Shared} {L : Addr} {m cm : Str → Option Value} {Q : Flow → Shared → Prop}
theorem if_no {M : Model} {E : Value → Shared → Prop} {env : Env} {test : Expr} {body : List Stmt} {pos : Pos} {Q : Flow → Shared → Prop} (h : wpAny M A (isTrue test env (eval test env)) (fun b s' => b = false ∧ Q .next s') E s) : wpAny M A (exec (.If test body [] pos) env) Q E s := by
  refine wpAny_If (wpAny_mono h (fun b s' q => ?_) fun _ _ q => q)
  obtain ⟨rfl, q⟩ := q
  simp only [Bool.false_eq_true, if_false]
  exact wpAny_execs_nil q
theorem lt_c {u d : Nat} {A : Around} {dd : Nat} (R : Rm A dd u) (h : u + d < cLine := by decide) : A.units + d < cLine := Nat.lt_of_le_of_lt (Nat.add_le_add_right R.units d) h
/-- v[-1] as an index -/
theorem g_neg1 {env : Env} {k : Nat} {p1 p2 : Pos} {Q : Value → Shared → Prop} (h : ∀ t s', Step0 s s' → Q (.int (-1) t) s') : wpAny (model prog w) A (eval (.UnaryOp .USub (.Constant (.int 1) k p1) p2) env) Q NoE s :=
  wpAny_UnaryOp (g_int fun t s2 h2 => neg_int (h _ _ (h2.trans (Step0.toks s2 _))))
/-- batches = list(do_batch(things, pieces)) -/
theorem c_s6 {ta : Addr} {T : List Value} {p : Nat} {tp : Tok} (X : (KP w.params).In s₀.heap) (F : Run (LE w.params L) s₀ m cm s) (R : Rm A 600 900) (m1 : m "things" = some (.ref ta)) (c1 : cm "pieces" = some (.int p tp)) (hT : IsL s ta T) (hz : T.length ≤ 9) (hp : 1 ≤ p) (hp2 : p ≤ 4)
    (k : ∀ ba s', Run (LE w.params L) s₀ (stv "batches" (.ref ba) m) cm s' → Step (Hot (LE w.params L)) s s' → Mine.Rows s' ba (batchL p .none T) → Q .next s') :
    wpAny (model prog w) A (exec (inAt 33 6) (LE w.params L)) Q NoE s := by
  refine wpAny_Assign_Name (Call_ (g_built F X (.type "list") (cw_type (spliced_more (Call_ (g_glob F X (.ref 303) (cw_fn (spliced_more (g_ld F m1 (spliced_more (g_ldc F (c := cl w.params L "pieces") (by kernel_rfl) c1 (spliced_none ⟨isFn_K (F.K X), ?_⟩)))))))))))) 
  refine c_batch (t := tp) (args := ⟨[.ref ta, .int p tp], []⟩) (fv := .none) R.mono (F.K X) hT (by omega) hp (by omega) (.inl rfl) (by kernel_rfl) fun G s2 h2 hG => spliced_none (hG A _ R.mono fun S ys s3 h3 hS hpost nS => ?_)
  refine g_st (F.step0 h3) fun s4 F4 h4 => ?_
  refine k S s4 F4 (h3.up.trans h4) ?_
  exact (rows_of hS hpost.1 hpost.2).hot (F.act.step0 h3) h4
/-- len(batches) - 1 if size > 0 else 0 -/
theorem g_len1 {ba : Addr} {rs : List Value} {n N : Nat} {tz : Tok} {k1 k2 k3 : Nat} {p1 p2 p3 p4 p5 p6 p7 p8 p9 p10 : Pos} {Q : Value → Shared → Prop} (X : (KP w.params).In s₀.heap) (F : Run (LE w.params L) s₀ m cm s) (R : Rm A 600 900) (m2 : m "batches" = some (.ref ba)) (c2 : cm "size" = some (.int (n : Nat) tz)) (hB : IsL s ba rs) (hz : rs.length ≤ 1000)
    (h0 : n = 0 → N = 0) (h1 : 0 < n → rs.length = N + 1) (h : ∀ t s', Step0 s s' → Q (.int (N : Nat) t) s') :
    wpAny (model prog w) A (eval (.IfExp (.Compare (.Name "size" p1) [.Gt] [.Constant (.int 0) k1 p2] p3) (.BinOp (.Call (.Name "len" p4) [.Name "batches" p5] [] p6) .Sub (.Constant (.int 1) k2 p7) p8) (.Constant (.int 0) k3 p9) p10) (LE w.params L)) Q NoE s := by
  refine wpAny_IfExp (wpAny_isTrue_Compare1 (g_ldc F (c := cl w.params L "size") (by kernel_rfl) c2 (g_int fun t s2 h2 => gt_int (wpAny_truthy_bool ?_))))
  have F2 := F.step0 h2
  by_cases hn : 0 < n
  · rw [show decide ((0 : Int) < (n : Int)) = true from decide_eq_true (by omega)]
    simp only [if_true]
    refine wpAny_BinOp (Call_ (g_built F2 X (.builtin "len") (cw_builtin (spliced_more (g_ld F2 m2 (spliced_none (op_len R.mono (hB.step0 h2) hz fun t3 s3 h3 => g_int fun t4 s4 h4 => op_subi fun t5 s5 h5 => ?_)))))))
    rw [show ((rs.length : Nat) : Int) - 1 = ((N : Nat) : Int) from by rw [h1 hn]; omega]
    exact h t5 s5 (h2.trans (h3.trans (h4.trans h5)))
  · rw [show decide ((0 : Int) < (n : Int)) = false from decide_eq_false (by omega)]
    simp only [Bool.false_eq_true, if_false]
    refine g_int fun t3 s3 h3 => ?_
    have := h0 (by omega)
    subst this
    exact h t3 s3 (h2.trans h3)
theorem last_of {rs : List Addr} {k : Nat} (h : rs.length = k + 1) : ∃ r, rs[k]? = some r ∧ (rs.map Value.ref).getLast? = some (.ref r) := by
  have hk : k < rs.length := by omega
  refine ⟨rs[k], by simp [hk], ?_⟩
  rw [List.getLast?_eq_getElem?]
  simp [h]
/-- batches are the row, each as long as told but the last one -/
theorem c_s7 {ta ba : Addr} {T : List Value} {p : Nat} {tp tz : Tok} (X : (KP w.params).In s₀.heap) (F : Run (LE w.params L) s₀ m cm s) (R : Rm A 600 900) (m1 : m "things" = some (.ref ta)) (m2 : m "batches" = some (.ref ba)) (c1 : cm "pieces" = some (.int p tp)) (c2 : cm "size" = some (.int (T.length : Nat) tz)) (hT : IsL s ta T) (hB : Mine.Rows s ba (batchL p .none T)) (hz : T.length ≤ 9) (hp : 1 ≤ p) (hp2 : p ≤ 4)
    (k : ∀ s', Run (LE w.params L) s₀ m cm s' → Step (Hot (LE w.params L)) s s' → Q .next s') :
    wpAny (model prog w) A (exec (inAt 33 7) (LE w.params L)) Q NoE s := by
  have hN : batchN p T.length ≤ 9 := Nat.le_trans batchN_le hz
  refine if_no (isTrue_or (wpAny_isTrue_Compare1 (Call_ (g_glob F X (.ref 400) (cw_fn (spliced_more (g_ld F m2 (spliced_none ⟨isFn_K (F.K X), c_joined R.mono (F.K X) hB (by rw [batchL_flat hp]; omega) fun j s2 h2 hj nj => ?_⟩))))))))
  rw [batchL_flat hp] at hj
  have F2 := F.step0 h2
  refine g_ld F2 m1 (op_ne (d := 0) (lt_c R) hj (hT.step0 h2) (EqvAll.refl _) (wpAny_truthy_bool ?_))
  simp only [Bool.false_eq_true, if_false]
  have hB2 := hB.step0 h2
  obtain ⟨rs, hrs, hlen, hrow⟩ := hB2.at
  have hlen' : rs.length = batchN p T.length := by rw [hlen, batchL_len]
  refine isTrue_or (wpAny_isTrue_Compare1 (comp_pure X F2 (sub_slice (g_ld F2 m2 (wpAny_pure ?_)))))
  show wpAny (model prog w) A (eval _ _) _ _ _
  refine g_neg1 fun t3 s3 h3 => ⟨ba, rs.map .ref, none, some (-1), rfl, hrs.step0 h3, by simp; omega, .none, .int _ _, fun r s4 h4 hr nr => ?_⟩
  rw [pick_init] at hr
  have h24 := h3.trans h4
  refine clause_list R.handled X F2 h24 hr (F2.act.hot (Step0.notThere h3 nr)) (by simp; omega) (fun C => by kernel_rfl) (fun C => by kernel_rfl) fun I s5 V St cla => ⟨I, _, _, _, V, _, St, fun i y => ∃ t, y = .int p t, cla, ?_, fun D ys s6 hD hl hG nD h6 => ?_⟩
  · rintro i C mm m' s6 hi ⟨v, hv, rfl⟩ R6 st6
    simp only [List.length_dropLast, List.length_map] at hi
    have hv' : (rs.map Value.ref)[i]? = some v := by
      rw [List.dropLast_eq_take, List.getElem?_take] at hv
      split at hv
      · exact hv
      · cases hv
    rw [List.getElem?_map] at hv'
    cases er : rs[i]? with
    | none => rw [er] at hv'; cases hv'
    | some r0 =>
      rw [er] at hv'
      cases hv'
      obtain ⟨xs, ex, hx⟩ := hrow i r0 er
      rw [batchL_at (by omega), padTo_none] at ex
      cases ex
      have hx6 := hx.hot F2.act st6
      refine Call_ (g_built R6 X (.builtin "len") (cw_builtin (spliced_more (g_ld R6 putN (spliced_none (op_len R.mono hx6 (by rw [chunk_len]; omega) fun t7 s7 h7 => ?_))))))
      rw [chunk_whole hp (by omega)]
      exact ⟨h7, t7, rfl⟩
  · have F6 := F2.step0 h6
    have hl6 : ys.length = batchN p T.length - 1 := by rw [hl]; simp; omega
    refine wpAny_BinOp (List_ (spliced_more (g_ldc F6 (c := cl w.params L "pieces") (by kernel_rfl) c1 (spliced_none (op_newList (by simp) (fun q s7 h7 hq nq _ => ?_) (size_ge (F6.K X)))))))
    have F7 := F6.step0 h7
    have hD7 := hD.step0 h7
    refine g_len1 (N := batchN p T.length - 1) X F7 R m2 c2 (((hrs.step0 h6).step0 h7)) (by simp; omega) (fun h0 => by rw [h0, batchN_zero]) (fun hpos => by have := batchN_one (p := p) hpos; simp [hlen']; omega) fun t8 s8 h8 => ?_
    refine op_mulL (hq.step0 h8) (by omega) (by omega) (by simp) fun q2 s9 h9 hq2 nq2 => ?_
    have hD9 := (hD7.step0 h8).step0 h9
    refine op_ne (d := 0) (lt_c R) hD9 hq2 ⟨by simp [hl6], fun j x y e1 e2 => ?_⟩ (wpAny_truthy_bool ?_)
    · obtain ⟨t, rfl⟩ := hG j x e1
      have : y = .int p tp := by
        have := List.mem_of_getElem? e2
        simp at this; exact this.2
      rw [this]; exact Eqv.int
    · simp only [Bool.false_eq_true, if_false]
      have st29 : Step0 s2 s9 := h6.trans (h7.trans (h8.trans h9))
      have F9 := F2.step0 st29
      have hB9 := hB2.step0 st29
      refine isTrue_or (wpAny_isTrue_Compare1 (List_ (spliced_none (op_newList (by simp) (fun e s10 h10 he ne _ => ?_) (size_ge (F9.K X))))))
      have F10 := F9.step0 h10
      obtain ⟨rs2, hrs2, hlen2, hrow2⟩ := (hB9.step0 h10).at
      have hlen2' : rs2.length = batchN p T.length := by rw [hlen2, batchL_len]
      refine g_ld F10 m2 (op_in_no (lt_c R) hrs2 he (fun x hx => ?_) (wpAny_truthy_bool ?_))
      · obtain ⟨r, hr, rfl⟩ := List.mem_map.mp hx
        obtain ⟨i, ei⟩ := List.getElem?_of_mem hr
        obtain ⟨xs, ex, hxs⟩ := hrow2 i r ei
        have hi : i < batchN p T.length := by rw [← hlen2']; exact (List.getElem?_eq_some_iff.mp ei).1
        rw [batchL_at hi, padTo_none] at ex
        cases ex
        exact ⟨r, _, rfl, hxs, fun q => by have := (chunk_any hp hi).1; rw [q] at this; simp at this⟩
      · simp only [Bool.false_eq_true, if_false]
        refine isTrue_or (isTrue_and (wpAny_isTrue_Compare1 (g_ldc F10 (c := cl w.params L "size") (by kernel_rfl) c2 (g_int fun t11 s11 h11 => gt_int (wpAny_truthy_bool ?_)))))
        have F11 := F10.step0 h11
        by_cases hn : 0 < T.length
        · rw [show decide ((0 : Int) < (T.length : Int)) = true from decide_eq_true (by omega)]
          simp only [if_true]
          have hN1 : rs2.length = (batchN p T.length - 1) + 1 := by have := batchN_one (p := p) hn; rw [hlen2']; omega
          obtain ⟨r, er, el⟩ := last_of hN1
          obtain ⟨xs, ex, hxs⟩ := hrow2 _ r er
          have hi : batchN p T.length - 1 < batchN p T.length := by omega
          rw [batchL_at hi, padTo_none] at ex
          cases ex
          have hany := chunk_any hp hi
          refine isTrue_and (wpAny_isTrue_Compare1 (Call_ (g_built F11 X (.builtin "len") (cw_builtin (spliced_more (Subscript_ (g_ld F11 m2 (g_neg1 fun t12 s12 h12 => sub_last (((hrs2.step0 h11)).step0 h12) el (by simp; omega) (spliced_none (op_len R.mono ((hxs.step0 h11).step0 h12) (by omega) fun t13 s13 h13 => ?_)) rfl))))))))
          have F13 := (F11.step0 h12).step0 h13
          refine g_ldc F13 (c := cl w.params L "pieces") (by kernel_rfl) c1 (gt_int (wpAny_truthy_bool ?_))
          rw [show decide ((p : Int) < ((chunk p T (batchN p T.length - 1)).length : Int)) = false from decide_eq_false (by omega)]
          simp only [Bool.false_eq_true, if_false]
          refine isTrue_or_nil ⟨rfl, k s13 F13 (h2.trans (st29.trans (h10.trans (h11.trans (h12.trans h13))))).up⟩
        · rw [show decide ((0 : Int) < (T.length : Int)) = false from decide_eq_false (by omega)]
          simp only [Bool.false_eq_true, if_false]
          exact isTrue_or_nil ⟨rfl, k s11 F11 (h2.trans (st29.trans (h10.trans h11))).up⟩
end
end Mine
end
section
open PySem PySem.W PySem.W.X PyProof.Rows
namespace Mine
theorem EqvAll.app {s : Shared} {d : Nat} {xs ys xs' ys' : List Value} (h : EqvAll s d xs ys) (h' : EqvAll s d xs' ys') : EqvAll s d (xs ++ xs') (ys ++ ys') := by
  refine ⟨by simp [h.1, h'.1], fun j x y e1 e2 => ?_⟩
  by_cases hj : j < xs.length
  · rw [List.getElem?_append_left hj] at e1
    rw [List.getElem?_append_left (by rw [← h.1]; exact hj)] at e2
    exact h.2 j x y e1 e2
  · rw [List.getElem?_append_right (by omega)] at e1
    rw [List.getElem?_append_right (by rw [← h.1]; omega), ← h.1] at e2
    exact h'.2 _ x y e1 e2
theorem EqvAll.rep {s : Shared} {d n : Nat} {u v : Value} (h : Eqv s d u v) : EqvAll s d (List.replicate n u) (List.replicate n v) :=
  ⟨by simp, fun j x y e1 e2 => by
    rw [List.eq_of_mem_replicate (List.mem_of_getElem? e1), List.eq_of_mem_replicate (List.mem_of_getElem? e2)]; exact h⟩
/-- two lists of lists alike -/
theorem eqv_rows {s : Shared} {rs qs : List Addr} {n : Nat} {f : Nat → List Value} (h1 : rs.length = n) (h2 : qs.length = n) (h : ∀ (j : Nat) (r q : Addr), rs[j]? = some r → qs[j]? = some q → IsL s r (f j) ∧ IsL s q (f j)) : EqvAll s 1 (rs.map Value.ref) (qs.map Value.ref) := by
  refine ⟨by simp [h1, h2], fun j x y e1 e2 => ?_⟩
  rw [List.getElem?_map] at e1 e2
  cases r1 : rs[j]? with
  | none => rw [r1] at e1; cases e1
  | some r =>
    cases q1 : qs[j]? with
    | none => rw [q1] at e2; cases e2
    | some q =>
      rw [r1] at e1; rw [q1] at e2
      cases e1; cases e2
      obtain ⟨a, b⟩ := h j r q r1 q1
      exact Eqv.list a b (EqvAll.refl _)
theorem dropLast_map {rs : List Addr} : (rs.map Value.ref).dropLast = rs.dropLast.map Value.ref := by simp [List.dropLast_eq_take]
theorem dropLast_at {α : Type} {rs : List α} {j : Nat} {r : α} (h : rs.dropLast[j]? = some r) : rs[j]? = some r ∧ j + 1 < rs.length := by
  rw [List.dropLast_eq_take, List.getElem?_take] at h
  split at h
  · exact ⟨h, by omega⟩
  · cases h
section
variable {prog : Program} {w : World} {A : Around} {s s₀ : Shared} {L : Addr} {m cm : Str → Option Value} {Q : Flow → Shared → Prop}
/-- filled = list(do_batch(things, pieces, 'x')) -/
theorem c_s8 {ta : Addr} {T : List Value} {p : Nat} {tp : Tok} (X : (KP w.params).In s₀.heap) (F : Run (LE w.params L) s₀ m cm s) (R : Rm A 600 900) (m1 : m "things" = some (.ref ta)) (c1 : cm "pieces" = some (.int p tp)) (hT : IsL s ta T) (hz : T.length ≤ 9) (hp : 1 ≤ p) (hp2 : p ≤ 4)
    (k : ∀ fa t s', Run (LE w.params L) s₀ (stv "filled" (.ref fa) m) cm s' → Step (Hot (LE w.params L)) s s' → Mine.Rows s' fa (batchL p (.str "x" t) T) → Q .next s') :
    wpAny (model prog w) A (exec (inAt 33 8) (LE w.params L)) Q NoE s := by
  refine wpAny_Assign_Name (Call_ (g_built F X (.type "list") (cw_type (spliced_more (Call_ (g_glob F X (.ref 303) (cw_fn (spliced_more (g_ld F m1 (spliced_more (g_ldc F (c := cl w.params L "pieces") (by kernel_rfl) c1 (spliced_more (g_str fun t1 s1 h1 => spliced_none ⟨isFn_K ((F.step0 h1).K X), ?_⟩)))))))))))))
  have F1 := F.step0 h1
  refine c_batch (t := tp) (args := ⟨[.ref ta, .int p tp, .str "x" t1], []⟩) (fv := .str "x" t1) R.mono (F1.K X) (hT.step0 h1) (by omega) hp (by omega) (.inr ⟨_, _, rfl⟩) (by kernel_rfl) fun G s2 h2 hG => spliced_none (hG A _ R.mono fun S ys s3 h3 hS hpost nS => ?_)
  refine g_st (F1.step0 h3) fun s4 F4 h4 => ?_
  refine k S t1 s4 F4 ((h1.trans h3).up.trans h4) ?_
  exact (rows_of hS hpost.1 hpost.2).hot (F1.act.step0 h3) h4
theorem c_s9 {ba fa : Addr} {T : List Value} {p : Nat} {tp tx : Tok} (X : (KP w.params).In s₀.heap) (F : Run (LE w.params L) s₀ m cm s) (R : Rm A 600 900) (m2 : m "batches" = some (.ref ba)) (m3 : m "filled" = some (.ref fa)) (c1 : cm "pieces" = some (.int p tp)) (hB : Mine.Rows s ba (batchL p .none T)) (hF : Mine.Rows s fa (batchL p (.str "x" tx) T)) (hz : T.length ≤ 9) (hp : 1 ≤ p) (hp2 : p ≤ 4)
    (k : ∀ s', Run (LE w.params L) s₀ m cm s' → Step (Hot (LE w.params L)) s s' → Q .next s') :
    wpAny (model prog w) A (exec (inAt 33 9) (LE w.params L)) Q NoE s := by
  have hN : batchN p T.length ≤ 9 := Nat.le_trans batchN_le hz
  obtain ⟨bs, hbs, blen, brow⟩ := hB.at
  obtain ⟨fs, hfs, flen, frow⟩ := hF.at
  rw [batchL_len] at blen flen
  have brow : ∀ (j : Nat) (r : Addr), bs[j]? = some r → j < batchN p T.length ∧ IsL s r (chunk p T j) := fun j r e => by
    obtain ⟨xs, ex, hx⟩ := brow j r e
    have hj : j < batchN p T.length := by rw [← blen]; exact (List.getElem?_eq_some_iff.mp e).1
    rw [batchL_at hj, padTo_none] at ex
    cases ex
    exact ⟨hj, hx⟩
  have frow : ∀ (j : Nat) (r : Addr), fs[j]? = some r → IsL s r (padTo p (.str "x" tx) (chunk p T j)) := fun j r e => by
    obtain ⟨xs, ex, hx⟩ := frow j r e
    have hj : j < batchN p T.length := by rw [← flen]; exact (List.getElem?_eq_some_iff.mp e).1
    rw [batchL_at hj] at ex
    cases ex
    exact hx
  refine if_no (isTrue_or (isTrue_and (wpAny_isTrue_Compare1 (g_ld F m2 (List_ (spliced_none (op_newList (by simp) (fun e s2 h2 he ne _ => ?_) (size_ge (F.K X)))))))))
  have F2 := F.step0 h2
  by_cases hn : 0 < T.length
  · have hN1 := batchN_one (p := p) hn
    refine op_ne_len (lt_c R (d := 0)) (hbs.step0 h2) he (by rw [List.length_map]; simp only [List.length_nil]; omega) (wpAny_truthy_bool ?_)
    simp only [if_true]
    refine isTrue_and (isTrue_or (wpAny_isTrue_Compare1 (sub_slice (g_ld F2 m3 (wpAny_pure ?_)))))
    show wpAny (model prog w) A (eval _ _) _ _ _
    refine g_neg1 fun t3 s3 h3 => ⟨fa, fs.map .ref, none, some (-1), rfl, (hfs.step0 h2).step0 h3, by simp; omega, .none, .int _ _, fun r s4 h4 hr nr => ?_⟩
    have st4 := h2.trans (h3.trans h4)
    have F4 := F.step0 st4
    refine sub_slice (g_ld F4 m2 (wpAny_pure ?_))
    show wpAny (model prog w) A (eval _ _) _ _ _
    refine g_neg1 fun t5 s5 h5 => ⟨ba, bs.map .ref, none, some (-1), rfl, (hbs.step0 st4).step0 h5, by simp; omega, .none, .int _ _, fun q s6 h6 hq nq => ?_⟩
    have st6 := st4.trans (h5.trans h6)
    have F6 := F.step0 st6
    rw [pick_init, dropLast_map] at hr hq
    refine op_ne (d := 1) (lt_c R) ((hr.step0 h5).step0 h6) hq (eqv_rows (n := batchN p T.length - 1) (f := chunk p T) (by simp [flen]) (by simp [blen]) fun j r q e1 e2 => ?_) (wpAny_truthy_bool ?_)
    · obtain ⟨e1, l1⟩ := dropLast_at e1
      obtain ⟨e2, l2⟩ := dropLast_at e2
      have a := frow j r e1
      rw [padTo_full (chunk_whole hp (by omega))] at a
      exact ⟨a.step0 st6, (brow j q e2).2.step0 st6⟩
    · simp only [Bool.false_eq_true, if_false]
      obtain ⟨rf, erf, elf⟩ := last_of (rs := fs) (k := batchN p T.length - 1) (by omega)
      obtain ⟨rb, erb, elb⟩ := last_of (rs := bs) (k := batchN p T.length - 1) (by omega)
      have a := frow _ rf erf
      have b := (brow _ rb erb).2
      have hany := chunk_any (xs := T) (j := batchN p T.length - 1) hp (by omega)
      refine isTrue_or (wpAny_isTrue_Compare1 (Subscript_ (g_ld F6 m3 (g_neg1 fun t7 s7 h7 => sub_last ((hfs.step0 st6).step0 h7) elf (by simp; omega) (wpAny_BinOp (Subscript_ (g_ld (F6.step0 h7) m2 (g_neg1 fun t8 s8 h8 => sub_last (((hbs.step0 st6).step0 h7).step0 h8) elb (by simp; omega) (wpAny_BinOp (List_ (spliced_more (g_str fun t9 s9 h9 => spliced_none (op_newList (by simp) (fun o s10 h10 ho no _ => ?_) (size_ge ((((F6.step0 h7).step0 h8).step0 h9).K X))))))) rfl)))) rfl))))
      have st10 := st6.trans (h7.trans (h8.trans (h9.trans h10)))
      have F10 := F.step0 st10
      refine wpAny_BinOp (g_ldc F10 (c := cl w.params L "pieces") (by kernel_rfl) c1 (Call_ (g_built F10 X (.builtin "len") (cw_builtin (spliced_more (Subscript_ (g_ld F10 m2 (g_neg1 fun t11 s11 h11 => sub_last ((hbs.step0 st10).step0 h11) elb (by simp; omega) (spliced_none (op_len R.mono ((b.step0 st10).step0 h11) (by omega) fun t12 s12 h12 => op_subi fun t13 s13 h13 => ?_)) rfl))))))))
      have st13 := st10.trans (h11.trans (h12.trans h13))
      rw [show ((p : Nat) : Int) - (((chunk p T (batchN p T.length - 1)).length : Nat) : Int) = ((p - (chunk p T (batchN p T.length - 1)).length : Nat) : Int) from by omega]
      refine op_mulL (((ho.step0 h11).step0 h12).step0 h13) (by omega) (by omega) (by simp) fun o2 s14 h14 ho2 no2 => ?_
      have st14 := st13.trans h14
      rw [Int.toNat_natCast, List.flatten_replicate_singleton] at ho2
      refine op_addL R.mono (b.step0 st14) ho2 (by simp; omega) fun o3 s15 h15 ho3 no3 => ?_
      refine op_ne (d := 0) (lt_c R) ((a.step0 st14).step0 h15) ho3 ?_ (wpAny_truthy_bool ?_)
      · unfold padTo
        rw [if_neg (by intro q; cases q)]
        exact (EqvAll.refl _).app (EqvAll.rep (Eqv.key (k := .s ("x" : Str).cps.toList) ⟨_, _, rfl, rfl⟩ ⟨_, _, rfl, rfl⟩))
      · simp only [Bool.false_eq_true, if_false]
        have st15 := st14.trans h15
        have F15 := F.step0 st15
        refine isTrue_or_nil ?_
        simp only [Bool.false_eq_true, if_false]
        refine isTrue_or (isTrue_and (wpAny_isTrue_Compare1 (g_ld F15 m2 (List_ (spliced_none (op_newList (by simp) (fun e2 s16 h16 he2 ne2 _ => ?_) (size_ge (F15.K X))))))))
        refine op_eq_len (lt_c R (d := 0)) ((hbs.step0 st15).step0 h16) he2 (by rw [List.length_map]; simp only [List.length_nil]; omega) (wpAny_truthy_bool ?_)
        simp only [Bool.false_eq_true, if_false]
        exact isTrue_or_nil ⟨rfl, k s16 (F15.step0 h16) (st15.trans h16).up⟩
  · have hn0 : T.length = 0 := by omega
    rw [hn0, batchN_zero] at blen flen
    have b0 : bs = [] := List.eq_nil_of_length_eq_zero blen
    have f0 : fs = [] := List.eq_nil_of_length_eq_zero flen
    subst b0 f0
    refine op_ne (d := 0) (lt_c R) (hbs.step0 h2) he (EqvAll.refl _) (wpAny_truthy_bool ?_)
    simp only [Bool.false_eq_true, if_false]
    refine isTrue_or (isTrue_and (wpAny_isTrue_Compare1 (g_ld F2 m2 (List_ (spliced_none (op_newList (by simp) (fun e2 s3 h3 he2 ne2 _ => ?_) (size_ge (F2.K X))))))))
    have F3 := F2.step0 h3
    refine op_eq (d := 0) (lt_c R) ((hbs.step0 h2).step0 h3) he2 (EqvAll.refl _) (wpAny_truthy_bool ?_)
    simp only [if_true]
    refine isTrue_and (wpAny_isTrue_Compare1 (g_ld F3 m3 (List_ (spliced_none (op_newList (by simp) (fun e3 s4 h4 he3 ne3 _ => ?_) (size_ge (F3.K X)))))))
    refine op_ne (d := 0) (lt_c R) (((hfs.step0 h2).step0 h3).step0 h4) he3 (EqvAll.refl _) (wpAny_truthy_bool ?_)
    simp only [Bool.false_eq_true, if_false]
    exact isTrue_or_nil ⟨rfl, k s4 (F3.step0 h4) (h2.trans (h3.trans h4)).up⟩
/-- slices = list(sync_do_slice(things, pieces)) -/
theorem c_s10 {ta : Addr} {T : List Value} {p : Nat} {tp : Tok} (X : (KP w.params).In s₀.heap) (F : Run (LE w.params L) s₀ m cm s) (R : Rm A 600 900) (m1 : m "things" = some (.ref ta)) (c1 : cm "pieces" = some (.int p tp)) (hT : IsL s ta T) (hz : T.length ≤ 9) (hp : 1 ≤ p) (hp2 : p ≤ 4)
    (k : ∀ sa s', Run (LE w.params L) s₀ (stv "slices" (.ref sa) m) cm s' → Step (Hot (LE w.params L)) s s' → Mine.Rows s' sa (sliceL p T) → Q .next s') :
    wpAny (model prog w) A (exec (inAt 33 10) (LE w.params L)) Q NoE s := by
  refine wpAny_Assign_Name (Call_ (g_built F X (.type "list") (cw_type (spliced_more (Call_ (g_glob F X (.ref 295) (cw_fn (spliced_more (g_ld F m1 (spliced_more (g_ldc F (c := cl w.params L "pieces") (by kernel_rfl) c1 (spliced_none ⟨isFn_K (F.K X), ?_⟩))))))))))))
  refine c_slice (t := tp) R.mono (F.K X) hT (by omega) hp (by omega) fun G s2 h2 hG => spliced_none (hG A _ R.mono fun S ys s3 h3 hS hpost nS => ?_)
  refine g_st (F.step0 h3) fun s4 F4 h4 => ?_
  refine k S s4 F4 (h3.up.trans h4) ?_
  exact (rows_of hS hpost.1 hpost.2).hot (F.act.step0 h3) h4
end
end Mine
end
section
open PySem PySem.W PySem.W.X PyProof.Rows
namespace Mine
section
variable {prog : Program} {w : World} {A : Around} {s s₀ : Shared} {L : Addr} {m cm : Str → Option Value} {Q : Flow → Shared → Prop}
theorem eqv_ints {s : Shared} {xs ys : List Value} {n : Nat} {f : Nat → Int} (h1 : xs.length = n) (h2 : ys.length = n) (hx : ∀ (i : Nat) (y : Value), xs[i]? = some y → ∃ t, y = .int (f i) t) (hy : ∀ (i : Nat) (y : Value), ys[i]? = some y → ∃ t, y = .int (f i) t) : EqvAll s 0 xs ys :=
  ⟨h1.trans h2.symm, fun j x y e1 e2 => by
    obtain ⟨t, rfl⟩ := hx j x e1
    obtain ⟨u, rfl⟩ := hy j y e2
    exact Eqv.int⟩
/-- slices are the row, alike but for one more in the first ones -/
theorem c_s11 {ta sa : Addr} {T : List Value} {p : Nat} {tp tz : Tok} (X : (KP w.params).In s₀.heap) (F : Run (LE w.params L) s₀ m cm s) (R : Rm A 600 900) (m1 : m "things" = some (.ref ta)) (m2 : m "slices" = some (.ref sa)) (c1 : cm "pieces" = some (.int p tp)) (c2 : cm "size" = some (.int (T.length : Nat) tz)) (hT : IsL s ta T) (hS : Mine.Rows s sa (sliceL p T)) (hz : T.length ≤ 9) (hp : 1 ≤ p) (hp2 : p ≤ 4)
    (k : ∀ s', Run (LE w.params L) s₀ m cm s' → Step (Hot (LE w.params L)) s s' → Q .next s') :
    wpAny (model prog w) A (exec (inAt 33 11) (LE w.params L)) Q NoE s := by
  refine if_no (isTrue_or (wpAny_isTrue_Compare1 (Call_ (g_glob F X (.ref 400) (cw_fn (spliced_more (g_ld F m2 (spliced_none ⟨isFn_K (F.K X), c_joined R.mono (F.K X) hS (by rw [sliceL_flat hp]; omega) fun j s2 h2 hj nj => ?_⟩))))))))
  rw [sliceL_flat hp] at hj
  have F2 := F.step0 h2
  refine g_ld F2 m1 (op_ne (d := 0) (lt_c R) hj (hT.step0 h2) (EqvAll.refl _) (wpAny_truthy_bool ?_))
  simp only [Bool.false_eq_true, if_false]
  obtain ⟨rs, hrs, hlen, hrow⟩ := (hS.step0 h2).at
  have hlen' : rs.length = p := by rw [hlen]; simp [sliceL]
  refine isTrue_or (wpAny_isTrue_Compare1 (comp_pure X F2 (g_ld F2 m2 (clause_list R.handled X F2 (Step.refl _ _) hrs (fun q => F2.act.notList q hrs) (by simp; omega) (fun C => by kernel_rfl) (fun C => by kernel_rfl) fun I s5 V St cla => ⟨I, _, _, _, V, _, St, fun i y => ∃ t, y = .int ((T.length / p + (if i < T.length % p then 1 else 0) : Nat) : Int) t, cla, ?_, fun D ys s6 hD hl hG nD h6 => ?_⟩))))
  · rintro i C mm m' s6 hi ⟨v, hv, rfl⟩ R6 st6
    rw [List.getElem?_map] at hv
    cases er : rs[i]? with
    | none => rw [er] at hv; cases hv
    | some r0 =>
      rw [er] at hv
      cases hv
      obtain ⟨xs, ex, hx⟩ := hrow i r0 er
      have hi' : i < p := by rw [← hlen']; exact (List.getElem?_eq_some_iff.mp er).1
      have e2 : xs = sliceAt p T i := by
        unfold sliceL at ex
        rw [List.getElem?_map, List.getElem?_range hi'] at ex
        cases ex; rfl
      subst e2
      have hx6 := hx.hot F2.act st6
      have hle : (sliceAt p T i).length ≤ 1000 := by
        unfold sliceAt
        simp only [List.length_take, List.length_drop]
        omega
      refine Call_ (g_built R6 X (.builtin "len") (cw_builtin (spliced_more (g_ld R6 putN (spliced_none (op_len R.mono hx6 hle fun t7 s7 h7 => ?_))))))
      rw [sliceAt_len hp hi']
      exact ⟨h7, t7, rfl⟩
  · have F6 := F2.step0 h6
    refine comp_pure X F6 (Call_ (g_built F6 X (.type "range") (cw_type (spliced_more (g_ldc F6 (c := cl w.params L "pieces") (by kernel_rfl) c1 (spliced_none (clause_range R.handled X F6 (Step.refl _ _) (by omega) (fun C => by kernel_rfl) (fun C => by kernel_rfl) fun I s7 V St cla => ⟨I, _, _, p, V, _, St, fun i y => ∃ t, y = .int ((T.length / p + (if i < T.length % p then 1 else 0) : Nat) : Int) t, cla, ?_, fun D2 ys2 s8 hD2 hl2 hG2 nD2 h8 => ?_⟩)))))))
    · rintro i C mm m' s8 hi ⟨v, ⟨ti, rfl⟩, rfl⟩ R8 st8
      refine wpAny_BinOp (wpAny_BinOp (g_ldc R8 (c := cl w.params L "size") (by kernel_rfl) c2 (g_ldc R8 (c := cl w.params L "pieces") (by kernel_rfl) c1 (op_divi (by omega) (PyProof.noPylong_small (by omega)) fun t9 s9 h9 => ?_))))
      rw [fdiv_nat]
      have R9 := R8.step0 h9
      refine wpAny_IfExp (wpAny_isTrue_Compare1 (g_ld R9 putN (wpAny_BinOp (g_ldc R9 (c := cl w.params L "size") (by kernel_rfl) c2 (g_ldc R9 (c := cl w.params L "pieces") (by kernel_rfl) c1 (op_modi (by omega) fun t10 s10 h10 => ?_))))))
      rw [fmod_nat]
      refine PyProof.Rows.lt_int (wpAny_truthy_bool ?_)
      by_cases hlt : i < T.length % p
      · rw [show decide ((i : Int) < ((T.length % p : Nat) : Int)) = true from decide_eq_true (by omega)]
        simp only [if_true]
        refine g_int fun t11 s11 h11 => op_addi fun t12 s12 h12 => ?_
        rw [if_pos hlt]
        exact ⟨h9.trans (h10.trans (h11.trans h12)), t12, by congr 1⟩
      · rw [show decide ((i : Int) < ((T.length % p : Nat) : Int)) = false from decide_eq_false (by omega)]
        simp only [Bool.false_eq_true, if_false]
        refine g_int fun t11 s11 h11 => op_addi fun t12 s12 h12 => ?_
        rw [if_neg hlt]
        exact ⟨h9.trans (h10.trans (h11.trans h12)), t12, by congr 1⟩
    · have F8 := F6.step0 h8
      refine op_ne (d := 0) (lt_c R) (hD.step0 h8) hD2 (eqv_ints (n := p) (f := fun i => ((T.length / p + (if i < T.length % p then 1 else 0) : Nat) : Int)) (by rw [hl]; simp [hlen']) hl2 hG hG2) (wpAny_truthy_bool ?_)
      simp only [Bool.false_eq_true, if_false]
      exact isTrue_or_nil ⟨rfl, k s8 F8 (h2.trans (h6.trans h8)).up⟩
/-- where they divide the row evenly both are the same -/
theorem c_s12 {ta sa : Addr} {T : List Value} {p : Nat} {tp tz : Tok} (X : (KP w.params).In s₀.heap) (F : Run (LE w.params L) s₀ m cm s) (R : Rm A 600 900) (m1 : m "things" = some (.ref ta)) (m2 : m "slices" = some (.ref sa)) (c1 : cm "pieces" = some (.int p tp)) (c2 : cm "size" = some (.int (T.length : Nat) tz)) (hT : IsL s ta T) (hS : Mine.Rows s sa (sliceL p T)) (hz : T.length ≤ 9) (hp : 1 ≤ p) (hp2 : p ≤ 4)
    (k : ∀ s', Run (LE w.params L) s₀ m cm s' → Step (Hot (LE w.params L)) s s' → Q .next s') :
    wpAny (model prog w) A (exec (inAt 33 12) (LE w.params L)) Q NoE s := by
  refine if_no (isTrue_and (wpAny_isTrue_Compare1 (g_ldc F (c := cl w.params L "size") (by kernel_rfl) c2 (g_int fun t2 s2 h2 => gt_int (wpAny_truthy_bool ?_)))))
  have F2 := F.step0 h2
  by_cases hn : 0 < T.length
  · rw [show decide ((0 : Int) < (T.length : Int)) = true from decide_eq_true (by omega)]
    simp only [if_true]
    refine isTrue_and (wpAny_isTrue_Compare1 (wpAny_BinOp (g_ldc F2 (c := cl w.params L "size") (by kernel_rfl) c2 (g_ldc F2 (c := cl w.params L "pieces") (by kernel_rfl) c1 (op_modi (by omega) fun t3 s3 h3 => ?_)))))
    rw [fmod_nat]
    refine g_int fun t4 s4 h4 => cmp_eq (a := .i _) (b := .i 0) ⟨_, rfl⟩ ⟨_, rfl⟩ rfl (wpAny_truthy_bool ?_)
    have st4 := h2.trans (h3.trans h4)
    have F4 := F.step0 st4
    by_cases he : T.length % p = 0
    · rw [show decide (Key.i ((T.length % p : Nat) : Int) = Key.i 0) = true from decide_eq_true (by rw [he]; rfl)]
      simp only [if_true]
      have qp : 1 ≤ T.length / p := by
        rcases Nat.eq_zero_or_pos (T.length / p) with z | z
        · have := Nat.div_add_mod T.length p
          rw [z, he] at this; omega
        · exact z
      have q9 : T.length / p ≤ 9 := Nat.le_trans (Nat.div_le_self _ _) hz
      refine isTrue_and (wpAny_isTrue_Compare1 (Call_ (g_built F4 X (.type "list") (cw_type (spliced_more (Call_ (g_glob F4 X (.ref 303) (cw_fn (spliced_more (g_ld F4 m1 (spliced_more (wpAny_BinOp (g_ldc F4 (c := cl w.params L "size") (by kernel_rfl) c2 (g_ldc F4 (c := cl w.params L "pieces") (by kernel_rfl) c1 (op_divi (by omega) (PyProof.noPylong_small (by omega)) fun t5 s5 h5 => ?_)))))))))))))))
      rw [fdiv_nat]
      have F5 := F4.step0 h5
      refine spliced_none ⟨isFn_K (F5.K X), ?_⟩
      refine c_batch (t := t5) (args := ⟨[.ref ta, .int ((T.length / p : Nat) : Int) t5], []⟩) (fv := .none) R.mono (F5.K X) ((hT.step0 st4).step0 h5) (by omega) qp (by omega) (.inl rfl) (by kernel_rfl) fun G s6 h6 hG => spliced_none (hG A _ R.mono fun S ys s7 h7 hS' hpost nS => ?_)
      have st7 := st4.trans (h5.trans h7)
      have F7 := F.step0 st7
      obtain ⟨bs, hbs, blen, brow⟩ := (rows_of hS' hpost.1 hpost.2).at
      obtain ⟨rs, hrs, rlen, rrow⟩ := (hS.step0 st7).at
      have hN := even_N hp hn he
      refine g_ld F7 m2 (op_ne (d := 1) (lt_c R) hbs hrs (eqv_rows (n := p) (f := sliceAt p T) (by rw [blen]; simp [hN]) (by rw [rlen]; simp [sliceL]) fun j r q e1 e2 => ?_) (wpAny_truthy_bool ?_))
      · obtain ⟨xs, ex, hx⟩ := brow j r e1
        obtain ⟨zs, ez, hzs⟩ := rrow j q e2
        have hj : j < p := by
          have := (List.getElem?_eq_some_iff.mp e2).1
          rw [rlen] at this; simpa [sliceL] using this
        rw [List.getElem?_map, List.getElem?_range (by omega)] at ex
        unfold sliceL at ez
        rw [List.getElem?_map, List.getElem?_range hj] at ez
        cases ex; cases ez
        have hx : IsL s7 r (padTo (T.length / p) .none (chunk (T.length / p) T j)) := hx
        rw [padTo_none, even_at he] at hx
        exact ⟨hx, hzs⟩
      · simp only [Bool.false_eq_true, if_false]
        exact ⟨trivial, k s7 F7 st7.up⟩
    · rw [show decide (Key.i ((T.length % p : Nat) : Int) = Key.i 0) = false from decide_eq_false (by intro q; injection q with q; omega)]
      simp only [Bool.false_eq_true, if_false]
      exact ⟨trivial, k s4 F4 st4.up⟩
  · rw [show decide ((0 : Int) < (T.length : Int)) = false from decide_eq_false (by omega)]
    simp only [Bool.false_eq_true, if_false]
    exact ⟨trivial, k s2 F2 h2.up⟩
end
end Mine
end
section
open PySem PySem.W PySem.W.X PyProof.Rows
namespace Mine
/-! the law's order, plainly -/
def rk (κ : Value → Key) (b : Bool) (v : Value) : Int := if b then - (κ v).z else (κ v).z
/-- keys that are single letters or ints, of one kind -/
def Fine (κ : Value → Key) (vs : List Value) : Prop := (∀ v ∈ vs, (κ v).One) ∧ ∀ v ∈ vs, ∀ u ∈ vs, (κ v).same (κ u) = true
theorem Fine.sub {κ : Value → Key} {vs us : List Value} (h : Fine κ vs) (k : ∀ v ∈ us, v ∈ vs) : Fine κ us := ⟨fun v hv => h.1 v (k v hv), fun v hv u hu => h.2 v (k v hv) u (k u hu)⟩
theorem order_places {κ : Value → Key} {b : Bool} {vs : List Value} (h : Fine κ vs) : ∃ q : List Nat, q.Perm (List.range vs.length) ∧ q.Pairwise (Bef fun i => rk κ b (vs.getD i .none)) ∧ lawOrder κ b vs = q.map fun i => vs.getD i .none := by
  have hρ : ∀ r d, r < vs.length → d < vs.length → goesOn κ b (vs.getD r .none) (vs.getD d .none) = decide (rk κ b (vs.getD d .none) ≤ rk κ b (vs.getD r .none)) := by
    intro r d hr hd
    have mr : vs.getD r .none ∈ vs := by simp [hr]
    have md : vs.getD d .none ∈ vs := by simp [hd]
    unfold goesOn Key.le rk
    cases b
    · simp only [Bool.false_eq_true, if_false]
      rw [Key.lt_z (h.1 _ mr) (h.1 _ md) (h.2 _ mr _ md), Bool.eq_iff_iff]
      simp
    · simp only [if_true]
      rw [Key.lt_z (h.1 _ md) (h.1 _ mr) (h.2 _ md _ mr), Bool.eq_iff_iff]
      simp
  obtain ⟨p, r⟩ := insAll_range (ρ := fun i => rk κ b (vs.getD i .none)) (on := fun r d => goesOn κ b (vs.getD r .none) (vs.getD d .none)) hρ vs.length (Nat.le_refl _)
  exact ⟨_, p, r, (order_of_stable (ρ := fun i => rk κ b (vs.getD i .none)) hρ p r).symm⟩
theorem order_rising {κ : Value → Key} {b : Bool} {vs : List Value} (h : Fine κ vs) : (lawOrder κ b vs).Pairwise fun x y => rk κ b x ≤ rk κ b y := by
  obtain ⟨q, p, r, e⟩ := order_places (b := b) h
  rw [e, List.pairwise_map]
  exact r.imp fun x => by unfold Bef at x; dsimp only at x; omega
theorem order_fixed {κ : Value → Key} {b : Bool} {vs : List Value} (h : Fine κ vs) (hp : vs.Pairwise fun x y => rk κ b x ≤ rk κ b y) : lawOrder κ b vs = vs := by
  have := order_of_keys (q := List.range vs.length) (b := b) h.1 h.2 (List.Perm.refl _) (by
    rw [List.pairwise_iff_getElem]
    intro i j hi hj hij
    have hi' : i < vs.length := by simpa using hi
    have hj' : j < vs.length := by simpa using hj
    simp only [List.getElem_range]
    have := List.pairwise_iff_getElem.mp hp i j hi' hj' hij
    unfold rk at this
    unfold Bef
    simp only [List.getD_eq_getElem?_getD, List.getElem?_eq_getElem hi', List.getElem?_eq_getElem hj', Option.getD_some]
    omega)
  rw [← this]
  exact map_range.symm
theorem order_twice {κ : Value → Key} {b : Bool} {vs : List Value} (h : Fine κ vs) : lawOrder κ b (lawOrder κ b vs) = lawOrder κ b vs :=
  order_fixed (h.sub fun v hv => (lawOrder_mem κ b v vs).mp hv) (order_rising h)
/-! groups -/
theorem last_split {α : Type} {l : List α} {x : α} (h : l.getLast? = some x) : l = l.dropLast ++ [x] := by
  have hne : l ≠ [] := fun q => by rw [q] at h; cases h
  have := List.dropLast_concat_getLast hne
  rw [List.getLast?_eq_some_getLast hne] at h
  injection h with h
  rw [← h]; exact this.symm
theorem group_flat {κ : Value → Key} (vs : List Value) : ((groupOn κ vs).map (·.2)).flatten = vs := by
  revert vs
  refine revInd rfl fun l a ih => ?_
  rw [groupOn_snoc]
  generalize groupOn κ l = gs at ih
  unfold groupStep
  split
  · rename_i k xs hlast
    split
    · have e := last_split hlast
      rw [e] at ih
      rw [← ih]
      simp
    · rw [← ih]; simp
  · rw [← ih]; simp
theorem group_heads {κ : Value → Key} (vs : List Value) (h : Fine κ vs) : (vs.Pairwise fun x y => rk κ false x ≤ rk κ false y) →
    (groupOn κ vs).map (fun kx => kx.2.headD .none) = uniqOn κ vs ∧ ((groupOn κ vs).map (·.1)).Pairwise fun a b => a.lt b = true := by
  revert h
  revert vs
  refine revInd (fun _ _ => ⟨rfl, List.Pairwise.nil⟩) fun l a ih hf hp => ?_
  have hf' : Fine κ l := hf.sub fun v hv => List.mem_append_left _ hv
  obtain ⟨ih1, ih2⟩ := ih hf' (List.pairwise_append.mp hp).1
  have hle : ∀ v ∈ l, rk κ false v ≤ rk κ false a := fun v hv => (List.pairwise_append.mp hp).2.2 v hv a (by simp)
  have gall := groupOn_all (κ := κ) l
  rw [groupOn_snoc, uniqOn_snoc]
  unfold uniqStep
  rw [← ih1]
  generalize groupOn κ l = gs at ih1 ih2 gall
  have hd : ∀ kx ∈ gs, κ (kx.2.headD .none) = kx.1 ∧ kx.2.headD .none ∈ l := fun kx hk => by
    obtain ⟨hne, hx⟩ := gall kx hk
    obtain ⟨x, r, e⟩ := List.exists_cons_of_ne_nil hne
    have : kx.2.headD .none = x := by rw [e]; rfl
    rw [this]; exact hx x (by rw [e]; simp)
  have ma : a ∈ l ++ [a] := by simp
  have lt_of : ∀ kx ∈ gs, kx.1 ≠ κ a → kx.1.lt (κ a) = true := fun kx hk hne => by
    obtain ⟨e, m⟩ := hd kx hk
    have m' := List.mem_append_left [a] m
    rw [← e] at hne ⊢
    rw [Key.lt_z (hf.1 _ m') (hf.1 _ ma) (hf.2 _ m' _ ma)]
    have := hle _ m
    unfold rk at this
    simp only [Bool.false_eq_true, if_false] at this
    have ne : (κ (kx.2.headD .none)).z ≠ (κ a).z := fun q => hne ((Key.eq_z (hf.1 _ m') (hf.1 _ ma) (hf.2 _ m' _ ma)).mpr q)
    exact decide_eq_true (by omega)
  unfold groupStep
  split
  · rename_i k xs hlast
    have hne : gs ≠ [] := fun q => by rw [q] at hlast; cases hlast
    have e := last_split hlast
    have hm : (k, xs) ∈ gs := List.mem_of_getLast? hlast
    split
    · rename_i hk
      have any : (gs.map fun kx => kx.2.headD .none).any (fun u => decide (κ u = κ a)) = true := by
        rw [List.any_eq_true]
        exact ⟨_, List.mem_map.mpr ⟨_, hm, rfl⟩, decide_eq_true ((hd _ hm).1.trans hk)⟩
      rw [any]
      simp only [if_true]
      have hxs : xs ≠ [] := (gall _ hm).1
      constructor
      · conv => rhs; rw [e]
        obtain ⟨x, r, ex⟩ := List.exists_cons_of_ne_nil hxs
        simp [ex]
      · have : ((gs.dropLast ++ [(k, xs ++ [a])]).map (·.1)) = gs.map (·.1) := by
          conv => rhs; rw [e]
          simp
        rw [this]; exact ih2
    · rename_i hk
      have allne : ∀ kx ∈ gs, kx.1 ≠ κ a := fun kx hkx q => by
        rw [e] at hkx
        rcases List.mem_append.mp hkx with hkx | hkx
        · have hp2 := ih2
          rw [e, List.map_append, List.pairwise_append] at hp2
          have l1 := hp2.2.2 kx.1 (List.mem_map.mpr ⟨kx, hkx, rfl⟩) k (by simp)
          have l2 := lt_of _ hm hk
          -- κ a = kx.1 < k < κ a
          obtain ⟨e1, m1⟩ := hd (k, xs) hm
          have hkx' : kx ∈ gs := by rw [e]; exact List.mem_append_left _ hkx
          obtain ⟨e2, m2⟩ := hd kx hkx'
          have m1' := List.mem_append_left [a] m1
          have m2' := List.mem_append_left [a] m2
          have e1' : κ (xs.headD .none) = k := e1
          rw [← e2, ← e1'] at l1
          rw [Key.lt_z (hf.1 _ m2') (hf.1 _ m1') (hf.2 _ m2' _ m1')] at l1
          rw [← e1'] at l2
          rw [Key.lt_z (hf.1 _ m1') (hf.1 _ ma) (hf.2 _ m1' _ ma)] at l2
          rw [← e2] at q
          rw [q] at l1
          have l1 := of_decide_eq_true l1
          have l2 := of_decide_eq_true l2
          omega
        · rw [List.mem_singleton.mp hkx] at q
          exact hk q
      have any : (gs.map fun kx => kx.2.headD .none).any (fun u => decide (κ u = κ a)) = false := by
        rw [List.any_eq_false]
        intro u hu
        obtain ⟨kx, hkx, rfl⟩ := List.mem_map.mp hu
        rw [(hd kx hkx).1]
        simpa using allne kx hkx
      rw [any]
      simp only [Bool.false_eq_true, if_false]
      refine ⟨by simp, ?_⟩
      rw [List.map_append, List.pairwise_append]
      refine ⟨ih2, by simp, fun x hx y hy => ?_⟩
      obtain ⟨kx, hkx, rfl⟩ := List.mem_map.mp hx
      simp at hy
      rw [hy]; exact lt_of kx hkx (allne kx hkx)
  · rename_i hlast
    have : gs = [] := by
      cases gs with
      | nil => rfl
      | cons x r => simp at hlast
    subst this
    simp
end Mine
end
section
open PySem PySem.W PySem.W.X PyProof.Rows
namespace Mine
section
variable {prog : Program} {w : World} {A : Around} {s s₀ : Shared} {env : Env} {m cm : Str → Option Value}
/-- for a, b in enumerate(l) -/
theorem clause_enum {a b : Str} {pa pb pos : Pos} {k : Nat} {scope : Scope} {l : Addr} {vs : List Value} {s₁ : Shared} {P : Params} {Q : Value → Shared → Prop} (hh : A.handled = none) (X : (KP P).In s₀.heap) (F : Run env s₀ m cm s) (h01 : Step0 s s₁) (hl : IsL s₁ l vs) (hz : vs.length ≤ 1000)
    (ha : ∀ C, (cEnv scope env C).kindOf a = some .local) (hb : ∀ C, (cEnv scope env C).kindOf b = some .local) (hp : ∀ C, ((cEnv scope env C).scope.kind == .class || ((cEnv scope env C).scope.kind == .module && (cEnv scope env C).locals != (cEnv scope env C).globals)) = false) (hab : a ≠ b)
    (h : ∀ I it s₂ V St, Clause prog w A env (.Tuple [.Name a pa, .Name b pb] k pos) scope s (.ref I) s₂ I (fun x => x ∈ [I, it, l]) (fun x => x ∈ [I, it]) vs.length V (fun i m m' => ∃ p q, ((∃ t, p = .int i t) ∧ vs[i]? = some q) ∧ m' a = some p ∧ m' b = some q ∧ ∀ y, y ≠ a → y ≠ b → m' y = m y) St → Q (.ref I) s₂) :
    wpAny (model prog w) A (call (.type "enumerate") [.ref l]) (fun xv s₂ => wpAny (model prog w) A (pyIter xv) Q NoE s₂) NoE s₁ := by
  have F1 := F.step0 h01
  refine op_enum hl (size_ge (F1.K X)) fun e it s₂ h2 he hit nei ne ni e4 i4 => wpAny_pyIter_enum he ?_
  have le := ne_new hl.some ne
  have li := ne_new hl.some ni
  have T : Itr prog w A (.Tuple [.Name a pa, .Name b pb] k pos) e (fun x => x ∈ [e, it, l]) (fun x => x ∈ [e, it]) vs.toArray.size _ _ := itr_enum hh nei le li e4 i4
  rw [List.size_toArray] at T
  refine h e it s₂ _ _ ⟨rfl, h01.trans h2, ?_, T, ⟨⟨_, he⟩, hit, (hl.step0 h2).is⟩, hz, ?_, fun i C => bnd_pair (G := fun p q => (∃ t, p = .int i t) ∧ vs[i]? = some q) hh (fun v s hv => ?_) (ha C) (hb C) (hp C) hab⟩
  · intro x hx
    simp only [List.mem_cons, List.not_mem_nil, or_false] at hx
    rcases hx with rfl | rfl
    · exact h01.notThere ne
    · exact h01.notThere ni
  · intro x hx
    simp only [List.mem_cons, List.not_mem_nil, or_false] at hx
    rcases hx with rfl | rfl | rfl
    · exact F1.hotAt ne
    · exact F1.hotAt ni
    · exact fun q => F1.act.notList q hl
  · obtain ⟨T, vals, rfl, ⟨t, x, e1, rfl⟩, ht⟩ := hv
    exact ⟨T, _, x, rfl, ⟨⟨t, rfl⟩, by simpa using e1⟩, ht⟩
/-- the law's rows -/
def RowsOf (prog : Program) (w : World) (env : Env) (s : Shared) (as : List Addr) (T : List Value) : Prop := as.length = T.length ∧ as.Nodup ∧ ∀ (i : Nat) (a : Addr), as[i]? = some a → ¬ Hot env a ∧ IsRow prog w s a (T.getD i .none) i
theorem RowsOf.hot {s s' : Shared} {as T} (h : RowsOf prog w env s as T) (st : Step (Hot env) s s') : RowsOf prog w env s' as T := ⟨h.1, h.2.1, fun i a e => ⟨(h.2.2 i a e).1, (h.2.2 i a e).2.step st (h.2.2 i a e).1⟩⟩
theorem RowsOf.step0 {s s' : Shared} {as T} (h : RowsOf prog w env s as T) (st : Step0 s s') : RowsOf prog w env s' as T := h.hot st.up
/-- a row's key, by its place -/
noncomputable def rowK (as : List Addr) (T : List Value) : Value → Key := byPlace (as.map Value.ref) (fun i => keyV (T.getD i .none)) (.i 0)
theorem RowsOf.nodup {s : Shared} {as T} (h : RowsOf prog w env s as T) : (as.map Value.ref).Nodup := List.pairwise_map.mpr (h.2.1.imp fun e e' => e (by injection e'))
theorem ref_at {as : List Addr} {i : Nat} {v : Value} (e : (as.map Value.ref)[i]? = some v) : ∃ a, v = .ref a ∧ as[i]? = some a := by
  rw [List.getElem?_map] at e
  cases e2 : as[i]? with
  | none => rw [e2] at e; cases e
  | some a => rw [e2] at e; cases e; exact ⟨a, rfl, rfl⟩
theorem rowK_at {s : Shared} {as T} (h : RowsOf prog w env s as T) {i : Nat} {a : Addr} (e : as[i]? = some a) : rowK as T (.ref a) = keyV (T.getD i .none) := byPlace_at h.nodup (by rw [List.getElem?_map, e]; rfl)
/-- a row among them -/
theorem RowsOf.mem {s : Shared} {as T ib} (h : RowsOf prog w env s as T) (ht : Things T ib) {v : Value} (hv : v ∈ as.map Value.ref) : ∃ (i : Nat) (a : Addr) (u : Value), v = .ref a ∧ as[i]? = some a ∧ T[i]? = some u ∧ IsRow prog w s a u i ∧ IsThing u (keyV u) ∧ (keyV u).int = ib ∧ rowK as T v = keyV u := by
  obtain ⟨i, e⟩ := List.getElem?_of_mem hv
  obtain ⟨a, rfl, ea⟩ := ref_at e
  have hi : i < T.length := by rw [← h.1]; exact (List.getElem?_eq_some_iff.mp ea).1
  have eu : T[i]? = some T[i] := by simp [hi]
  have eg : T.getD i .none = T[i] := by simp [hi]
  have hr := (h.2.2 i a ea).2
  rw [eg] at hr
  refine ⟨i, a, T[i], rfl, ea, eu, hr, ht.thing _ (List.getElem_mem hi), ht.int _ (List.getElem_mem hi), ?_⟩
  rw [rowK_at h ea, eg]
theorem RowsOf.items {s : Shared} {as T ib} (h : RowsOf prog w env s as T) (ht : Things T ib) : ItemsOk prog w s true (as.map Value.ref) (rowK as T) := fun v hv => by
  obtain ⟨i, a, u, rfl, _, _, hr, hth, _, e⟩ := h.mem ht hv
  exact ⟨u, .inr ⟨rfl, a, i, rfl, hr⟩, by rw [e]; exact hth⟩
theorem RowsOf.int {s : Shared} {as T ib} (h : RowsOf prog w env s as T) (ht : Things T ib) : ∀ v ∈ as.map Value.ref, (rowK as T v).int = ib := fun v hv => by
  obtain ⟨i, a, u, rfl, _, _, _, _, hi, e⟩ := h.mem ht hv
  rw [e]; exact hi
theorem fine_of {vs : List Value} {κ : Value → Key} {b ib : Bool} (h : ∀ v ∈ vs, ∃ u, IsThing u (κ v) ∧ (κ v).int = ib) : Fine (fun v => (κ v).lowIf b) vs :=
  ⟨fun v hv => let ⟨u, a, _⟩ := h v hv; a.one b, fun v hv u hu => same_of_int (by
    obtain ⟨_, _, e1⟩ := h v hv
    obtain ⟨_, _, e2⟩ := h u hu
    rw [Key.low_int, Key.low_int, e1, e2])⟩
theorem RowsOf.fine {s : Shared} {as T ib} (h : RowsOf prog w env s as T) (ht : Things T ib) (b : Bool) : Fine (fun v => (rowK as T v).lowIf b) (as.map Value.ref) := fine_of (ib := ib) fun v hv => by
  obtain ⟨i, a, u, rfl, _, _, _, hth, hi, e⟩ := h.mem ht hv
  exact ⟨u, by rw [e]; exact hth, by rw [e]; exact hi⟩
theorem Things.items {s : Shared} {T ib} (ht : Things T ib) : ItemsOk prog w s false T keyV := fun v hv => ⟨v, .inl ⟨rfl, rfl⟩, ht.thing v hv⟩
theorem Things.fine {T ib} (ht : Things T ib) (b : Bool) : Fine (fun v => (keyV v).lowIf b) T := fine_of (ib := ib) fun v hv => ⟨v, ht.thing v hv, ht.int v hv⟩
end
section
variable {prog : Program} {w : World} {A : Around} {s s₀ : Shared} {L : Addr} {m cm : Str → Option Value} {Q : Flow → Shared → Prop}
/-- rows = [{'k': thing, 'n': place} for place, thing in enumerate(things)] -/
theorem c_s13 {ta : Addr} {T : List Value} (X : (KP w.params).In s₀.heap) (F : Run (LE w.params L) s₀ m cm s) (R : Rm A 600 900) (m1 : m "things" = some (.ref ta)) (hT : IsL s ta T) (hz : T.length ≤ 9)
    (k : ∀ ra as s', Run (LE w.params L) s₀ (stv "rows" (.ref ra) m) cm s' → Step (Hot (LE w.params L)) s s' → IsL s' ra (as.map .ref) → RowsOf prog w (LE w.params L) s' as T → Q .next s') :
    wpAny (model prog w) A (exec (inAt 33 13) (LE w.params L)) Q NoE s := by
  refine comp_newA X F (Call_ (g_built F X (.type "enumerate") (cw_type (spliced_more (g_ld F m1 (spliced_none (clause_enum R.handled X F (Step.refl _ _) hT (by omega) (fun C => by kernel_rfl) (fun C => by kernel_rfl) (fun C => by kernel_rfl) (by decide) fun I it s₂ V St cla => ⟨I, _, _, _, V, _, St, fun i a s => IsRow prog w s a (T.getD i .none) i, cla, fun i a X s s' g st n => g.step st n, ?_, fun D as s' hD hl hn hG nD R' h' => ?_⟩)))))))
  · rintro i C mm m' s3 hi ⟨p, q, ⟨⟨tn, rfl⟩, hq⟩, b1, b2, bk⟩ R3 st3
    refine wpAny_Dict_walk (knd := strKind prog w) (by rfl) (by rfl) (by simp) (by decide) ?_
    have h4 : Step0 s3 { s3 with heap := s3.heap.push { cls := .type "dict", data := .dict #[] } } := Step0.push _ _
    have hd4 := Heap.DictOf.new (knd := strKind prog w) s3.heap
    have nd : s3.heap.get? s3.heap.objs.size = none := Heap.get?_none_of_le (Nat.le_refl _)
    generalize hs4 : ({ s3 with heap := s3.heap.push { cls := .type "dict", data := .dict #[] } } : Shared) = s4 at h4
    have hd4 : s4.heap.DictOf (strKind prog w) s3.heap.objs.size [] := by rw [← hs4]; exact hd4
    generalize s3.heap.objs.size = d at nd hd4 ⊢
    have R4 := R3.step0 h4
    refine pairTrees_cons_walk (g_str fun t5 s5 h5 => g_ld (R4.step0 h5) b2 (pairTrees_cons_walk (g_str fun t6 s6 h6 => g_ld ((R4.step0 h5).step0 h6) b1 (pairTrees_nil_walk ?_))))
    have st6 := h5.trans h6
    have hd6 : s6.heap.DictOf (strKind prog w) d [] := dictOf_step hd4 st6 id
    refine ⟨[(("k" : Str), q), ("n", .int i tn)], ⟨strKind_is prog w _ _, rfl, strKind_is prog w _ _, rfl, trivial⟩, hd6, fun h' hm' hs' => ?_⟩
    have e : merged [] [(("k" : Str), q), ("n", .int i tn)] = ([("k", q), ("n", .int i tn)] : List (Str × Value)) := by
      unfold merged stored
      have ne : ¬ (("k" : Str) = ("n" : Str)) := by decide
      simp [ne]
    rw [e] at hm'
    have pl : ∀ o, s6.heap.get? d = some o → codeish o = false := fun o eo => by
      obtain ⟨o', es, ep, e1, e2, e3, _⟩ := hd6
      rw [eo] at e1; cases e1
      exact plain_dict e3
    have s67 : Step (fun b => b = d) s6 { s6 with heap := h', toks := s6.toks + 2 } := Step.of_same rfl hs' pl
    have st07 : Step0 s3 { s6 with heap := h', toks := s6.toks + 2 } := (Step.trans (h4.trans st6).up s67).new fun b eb _ => by rw [eb]; exact nd
    refine ⟨st07, d, rfl, nd, dictOf_some hm', ?_⟩
    have eg : T.getD i .none = q := by
      rw [List.getD_eq_getElem?_getD, hq]; rfl
    dsimp only
    rw [eg]
    exact ⟨tn, hm'⟩
  · exact k D as s' R' h' hD ⟨hl, hn, hG⟩
/-- def key -/
noncomputable def KeyFd (P : Params) (L : Addr) (nm cv ct : Value) : FuncData := inFd 33 14 "key" "law.<locals>.key" [("exact", cl P L "exact")] nm cv ct
theorem c_s14 (X : (KP w.params).In s₀.heap) (TB : TabsOk s₀.heap) (F : Run (LE w.params L) s₀ m cm s)
    (k : ∀ f nm cv ct s', Run (LE w.params L) s₀ m (stv "key" (.ref f) cm) s' → Step (Hot (LE w.params L)) s s' → IsInner s' f (KeyFd w.params L nm cv ct) → ¬ Hot (LE w.params L) f → Q .next s') :
    wpAny (model prog w) A (exec (inAt 33 14) (LE w.params L)) Q NoE s := by
  refine def_at 33 14 405 (p := ⟨402, 294, 4, "law.<locals>.key"⟩) (name := "key") (bind := "key") (c := 404) rfl X F (F.since.tab TB) (List.mem_of_getElem? (i := 3) rfl) ⟨_, _, by rfl, by rfl, by rfl⟩ (by kernel_rfl) (by kernel_rfl) (by kernel_rfl) (by kernel_rfl) (hd_K (F.K X)) fun f cv ct nm s₂ h2 hf nf => ?_
  have F2 := F.step0 h2
  refine g_stc F2 (c := cl w.params L "key") (by kernel_rfl) fun s3 F3 h3 => ?_
  have ecl : clOf (inScope 33 14) (EV 33 405 w.params L) = [(("exact" : Str), cl w.params L "exact")] := by kernel_rfl
  rw [ecl] at hf
  exact k f nm cv ct s3 F3 (h2.up.trans h3) (hf.hot F2 (F.hotAt nf) h3) (F.hotAt nf)
/-- what key answers -/
theorem key_fn {f : Addr} {nm cv ct : Value} {as : List Addr} {T : List Value} {ib b : Bool} (X : (KP w.params).In s₀.heap) (F : Run (LE w.params L) s₀ m cm s) (c1 : cm "exact" = some (.bool b)) (hf : IsInner s f (KeyFd w.params L nm cv ct)) (hr : RowsOf prog w (LE w.params L) s as T) (ht : Things T ib) :
    KeyFn prog w s f (as.map Value.ref) (fun v => (rowK as T v).lowIf b) := by
  refine ⟨hf.fn, fun v hv A' s' Q' R' st kk => ?_⟩
  obtain ⟨i, a, u, rfl, _, _, hrow, hth, _, e⟩ := hr.mem ht hv
  have hc : s.heap.IsCell (cl w.params L "exact") (some (.bool b)) := cell_at "exact" F c1
  refine c_key R' (KP.step0 (F.K X) st) (hf.step0 st) (isCell_step0 hc st) (hrow.step0 st) hth fun r' s'' st' hk => kk r' s'' st' ?_
  show IsKey r' ((rowK as T (.ref a)).lowIf b)
  rw [e]; exact hk
end
end Mine
end
section
open PySem PySem.W PySem.W.X PyProof.Rows
namespace Mine
/-- a row's thing -/
noncomputable def thingOf (as : List Addr) (T : List Value) : Value → Value := byPlace (as.map Value.ref) (fun i => T.getD i .none) .none
section
variable {prog : Program} {w : World} {A : Around} {s s₀ : Shared} {env : Env} {m cm : Str → Option Value}
theorem thing_at {s : Shared} {as T} (h : RowsOf prog w env s as T) {i : Nat} {a : Addr} (e : as[i]? = some a) : thingOf as T (.ref a) = T.getD i .none := byPlace_at h.nodup (by rw [List.getElem?_map, e]; rfl)
theorem RowsOf.memT {s : Shared} {as T ib} (h : RowsOf prog w env s as T) (ht : Things T ib) {v : Value} (hv : v ∈ as.map Value.ref) : ∃ (i : Nat) (a : Addr), v = .ref a ∧ as[i]? = some a ∧ IsRow prog w s a (thingOf as T v) i ∧ IsThing (thingOf as T v) (rowK as T v) ∧ rowK as T v = keyV (thingOf as T v) := by
  obtain ⟨i, a, u, rfl, e1, e2, hr, hth, _, e⟩ := h.mem ht hv
  have : thingOf as T (.ref a) = u := by rw [thing_at h e1, List.getD_eq_getElem?_getD, e2]; rfl
  rw [this, e]
  exact ⟨i, a, rfl, e1, hr, hth, rfl⟩
theorem things_map {s : Shared} {as T} (h : RowsOf prog w env s as T) : (as.map Value.ref).map (thingOf as T) = T := by
  apply List.ext_getElem (by simp [h.1])
  intro i h1 h2
  have hi : i < as.length := by simpa using h1
  simp only [List.getElem_map]
  rw [thing_at h (i := i) (by simp [hi])]
  simp [h2]
theorem order_things {s : Shared} {as T ib} (h : RowsOf prog w env s as T) (ht : Things T ib) (b ex : Bool) : lawOrder (fun v => (keyV v).lowIf ex) b T = (lawOrder (fun v => (rowK as T v).lowIf ex) b (as.map Value.ref)).map (thingOf as T) := by
  conv => lhs; rw [← things_map h]
  rw [lawOrder_ins, insAll_map, lawOrder_ins]
  congr 1
  refine (insAll_congr _ fun r hr d hd => ?_).1
  obtain ⟨_, _, rfl, _, _, _, e1⟩ := h.memT ht hr
  obtain ⟨_, _, rfl, _, _, _, e2⟩ := h.memT ht hd
  unfold goesOn
  dsimp only
  rw [e1, e2]
theorem uniq_things {s : Shared} {as T ib} (h : RowsOf prog w env s as T) (ht : Things T ib) (ex : Bool) : uniqOn (fun v => (keyV v).lowIf ex) T = (uniqOn (fun v => (rowK as T v).lowIf ex) (as.map Value.ref)).map (thingOf as T) := by
  have key : ∀ (l out : List Value), (∀ v ∈ l, v ∈ as.map Value.ref) → (∀ v ∈ out, v ∈ as.map Value.ref) → (l.map (thingOf as T)).foldl (uniqStep fun v => (keyV v).lowIf ex) (out.map (thingOf as T)) = (l.foldl (uniqStep fun v => (rowK as T v).lowIf ex) out).map (thingOf as T) := by
    intro l
    induction l with
    | nil => intro out _ _; rfl
    | cons a r ih =>
      intro out hl ho
      rw [List.map_cons, List.foldl_cons, List.foldl_cons, ← ih _ (fun v hv => hl v (.tail _ hv))]
      · congr 1
        have ek : ∀ v ∈ as.map Value.ref, (keyV (thingOf as T v)).lowIf ex = (rowK as T v).lowIf ex := fun v hv => by
          obtain ⟨_, _, rfl, _, _, _, e⟩ := h.memT ht hv
          rw [e]
        unfold uniqStep
        have ea : ((out.map (thingOf as T)).any fun u => decide ((keyV u).lowIf ex = (keyV (thingOf as T a)).lowIf ex)) = out.any fun u => decide ((rowK as T u).lowIf ex = (rowK as T a).lowIf ex) := by
          rw [List.any_map, Bool.eq_iff_iff, List.any_eq_true, List.any_eq_true]
          constructor
          · rintro ⟨u, hu, q⟩
            refine ⟨u, hu, ?_⟩
            have q := of_decide_eq_true q
            rw [ek u (ho u hu), ek a (hl a (.head _))] at q
            exact decide_eq_true q
          · rintro ⟨u, hu, q⟩
            refine ⟨u, hu, ?_⟩
            have q := of_decide_eq_true q
            refine decide_eq_true ?_
            show (keyV (thingOf as T u)).lowIf ex = (keyV (thingOf as T a)).lowIf ex
            rw [ek u (ho u hu), ek a (hl a (.head _))]
            exact q
        rw [ea]
        split <;> simp
      · intro v hv
        unfold uniqStep at hv
        split at hv
        · exact ho v hv
        · rcases List.mem_append.mp hv with hv | hv
          · exact ho v hv
          · rw [List.mem_singleton.mp hv]; exact hl a (.head _)
  have := key (as.map Value.ref) [] (fun v hv => hv) (by simp)
  rw [things_map h] at this
  exact this
end
def rowScope : Scope := { kind := .function, names := [(".0", .local), ("row", .local)], isGenerator := false, isCoroutine := false }
section
variable {prog : Program} {w : World} {A : Around} {s s₀ : Shared} {L : Addr} {m cm : Str → Option Value} {Q : Flow → Shared → Prop}
/-- [row['k'] for row in x] -/
theorem c_ks {x : Str} {l : Addr} {vs : List Value} {as : List Addr} {T : List Value} {ib : Bool} {k1 : Nat} {p1 p2 p3 p4 p5 pos : Pos} {Q : Value → Shared → Prop} (X : (KP w.params).In s₀.heap) (F : Run (LE w.params L) s₀ m cm s) (R : Rm A 600 900) (m1 : m x = some (.ref l)) (hl : IsL s l vs) (hz : vs.length ≤ 1000) (hr : RowsOf prog w (LE w.params L) s as T) (ht : Things T ib) (hsub : ∀ v ∈ vs, v ∈ as.map Value.ref)
    (hx : (LE w.params L).kindOf x = some .local) (hd : (x == ("__debug__" : Str)) = false) (k : ∀ D s', IsL s' D (vs.map (thingOf as T)) → s.heap.get? D = none → Step0 s s' → Q (.ref D) s') :
    wpAny (model prog w) A (eval (.ListComp (.Subscript (.Name "row" p1) (.Constant (.str "k") k1 p2) p3) [⟨.Name "row" p4, .Name x p5, [], 0⟩] rowScope pos) (LE w.params L)) Q NoE s := by
  refine comp_pure X F (g_ld F m1 (clause_list R.handled X F (Step.refl _ _) hl (fun q => F.act.notList q hl) hz (fun C => by kernel_rfl) (fun C => by kernel_rfl) fun I s2 V St cla => ⟨I, _, _, _, V, _, St, fun i y => (vs.map (thingOf as T))[i]? = some y, cla, ?_, fun D ys s' hD hl' hG nD h' => ?_⟩) (by kernel_rfl) hx hd)
  · rintro i C mm m' s3 hi ⟨v, hv, rfl⟩ R3 st3
    obtain ⟨j, a, rfl, _, hrow, _, _⟩ := (hr.hot st3).memT ht (hsub v (List.mem_of_getElem? hv))
    refine Subscript_ (g_ld R3 putN (g_str fun t4 s4 h4 => sub_k (hrow.step0 h4) (fun s5 h5 => ⟨h4.trans h5, ?_⟩) rfl))
    show (vs.map (thingOf as T))[i]? = some (thingOf as T (.ref a))
    rw [List.getElem?_map, hv]; rfl
  · refine k D s' ?_ nD h'
    have : ys = vs.map (thingOf as T) := by
      apply List.ext_getElem?
      intro i
      by_cases hi : i < ys.length
      · rw [List.getElem?_eq_getElem hi]
        exact (hG i _ (List.getElem?_eq_getElem hi)).symm
      · rw [List.getElem?_eq_none (by omega), List.getElem?_eq_none (by simp; omega)]
    rw [← this]; exact hD
/-- ordered = _law_order(rows, key, back) -/
theorem c_s15 {ra f : Addr} {as : List Addr} {T : List Value} {ib back ex : Bool} {nm cv ct : Value} (X : (KP w.params).In s₀.heap) (F : Run (LE w.params L) s₀ m cm s) (R : Rm A 600 900) (m1 : m "rows" = some (.ref ra)) (m2 : m "back" = some (.bool back)) (c1 : cm "key" = some (.ref f)) (c2 : cm "exact" = some (.bool ex))
    (hl : IsL s ra (as.map .ref)) (hr : RowsOf prog w (LE w.params L) s as T) (ht : Things T ib) (hz : T.length ≤ 9) (hf : IsInner s f (KeyFd w.params L nm cv ct))
    (k : ∀ oa s', Run (LE w.params L) s₀ (stv "ordered" (.ref oa) m) cm s' → Step (Hot (LE w.params L)) s s' → IsL s' oa (lawOrder (fun v => (rowK as T v).lowIf ex) back (as.map .ref)) → Q .next s') :
    wpAny (model prog w) A (exec (inAt 33 15) (LE w.params L)) Q NoE s := by
  refine wpAny_Assign_Name (Call_ (g_glob F X (.ref 395) (cw_fn (spliced_more (g_ld F m1 (spliced_more (g_ldc F (c := cl w.params L "key") (by kernel_rfl) c1 (spliced_more (g_ld F m2 (spliced_none ⟨isFn_K (F.K X), ?_⟩))))))))))
  refine c_order R.mono (F.K X) hl (by simp [hr.1]; omega) (key_fn X F c2 hf hr ht) (hr.fine ht ex).2 fun oa s2 h2 ho no => ?_
  refine g_st (F.step0 h2) fun s3 F3 h3 => ?_
  exact k oa s3 F3 (h2.up.trans h3) (ho.hot (F.act.step0 h2) h3)
/-- rising = _law_order(rows, key, False) -/
theorem c_s20 {ra f : Addr} {as : List Addr} {T : List Value} {ib ex : Bool} {nm cv ct : Value} (X : (KP w.params).In s₀.heap) (F : Run (LE w.params L) s₀ m cm s) (R : Rm A 600 900) (m1 : m "rows" = some (.ref ra)) (c1 : cm "key" = some (.ref f)) (c2 : cm "exact" = some (.bool ex))
    (hl : IsL s ra (as.map .ref)) (hr : RowsOf prog w (LE w.params L) s as T) (ht : Things T ib) (hz : T.length ≤ 9) (hf : IsInner s f (KeyFd w.params L nm cv ct))
    (k : ∀ oa s', Run (LE w.params L) s₀ (stv "rising" (.ref oa) m) cm s' → Step (Hot (LE w.params L)) s s' → IsL s' oa (lawOrder (fun v => (rowK as T v).lowIf ex) false (as.map .ref)) → Q .next s') :
    wpAny (model prog w) A (exec (inAt 33 20) (LE w.params L)) Q NoE s := by
  refine wpAny_Assign_Name (Call_ (g_glob F X (.ref 395) (cw_fn (spliced_more (g_ld F m1 (spliced_more (g_ldc F (c := cl w.params L "key") (by kernel_rfl) c1 (spliced_more (wpAny_Constant_bool (spliced_none ⟨isFn_K (F.K X), ?_⟩))))))))))
  refine c_order R.mono (F.K X) hl (by simp [hr.1]; omega) (key_fn X F c2 hf hr ht) (hr.fine ht ex).2 fun oa s2 h2 ho no => ?_
  refine g_st (F.step0 h2) fun s3 F3 h3 => ?_
  exact k oa s3 F3 (h2.up.trans h3) (ho.hot (F.act.step0 h2) h3)
/-- told = do_sort(world, rows, back, exact, 'k') -/
theorem c_s16 {ra wd d : Addr} {as : List Addr} {T : List Value} {ib back ex : Bool} (X : (KP w.params).In s₀.heap) (TB : TabsOk s₀.heap) (F : Run (LE w.params L) s₀ m cm s) (R : Rm A 600 900) (m1 : m "rows" = some (.ref ra)) (m2 : m "back" = some (.bool back)) (m3 : m "world" = some (.ref wd)) (c2 : cm "exact" = some (.bool ex))
    (hl : IsL s ra (as.map .ref)) (hr : RowsOf prog w (LE w.params L) s as T) (ht : Things T ib) (hz : T.length ≤ 9) (hw : WorldAt s wd d)
    (k : ∀ oa s', Run (LE w.params L) s₀ (stv "told" (.ref oa) m) cm s' → Step (Hot (LE w.params L)) s s' → IsL s' oa (lawOrder (fun v => (rowK as T v).lowIf ex) back (as.map .ref)) → Q .next s') :
    wpAny (model prog w) A (exec (inAt 33 16) (LE w.params L)) Q NoE s := by
  refine wpAny_Assign_Name (Call_ (g_glob F X (.ref 271) (cw_fn (spliced_more (g_ld F m3 (spliced_more (g_ld F m1 (spliced_more (g_ld F m2 (spliced_more (g_ldc F (c := cl w.params L "exact") (by kernel_rfl) c2 (spliced_more (g_str fun t2 s2 h2 => spliced_none ⟨isFn_K ((F.step0 h2).K X), ?_⟩)))))))))))))
  have F2 := F.step0 h2
  refine c_dosort (args := ⟨[.ref wd, .ref ra, .bool back, .bool ex, .str "k" t2], []⟩) (kk := true) (ib := ib) (rev := back) (b := ex) (κ₀ := rowK as T) R.mono (F2.K X) (F2.since.tab TB) (hw.is.step0 h2) (hl.step0 h2) (by simp [hr.1]; omega) (.inr ⟨t2, rfl, rfl⟩) ((hr.step0 h2).items ht) (hr.int ht) (by kernel_rfl) fun oa s3 h3 ho no => ?_
  refine g_st (F2.step0 h3) fun s4 F4 h4 => ?_
  exact k oa s4 F4 ((h2.trans h3).up.trans h4) (ho.hot (F2.act.step0 h3) h4)
/-- sorting again turns nothing -/
theorem c_s17 {oa ta wd d : Addr} {as : List Addr} {T : List Value} {ib back ex : Bool} (X : (KP w.params).In s₀.heap) (TB : TabsOk s₀.heap) (F : Run (LE w.params L) s₀ m cm s) (R : Rm A 600 900) (m1 : m "told" = some (.ref ta)) (m4 : m "ordered" = some (.ref oa)) (m2 : m "back" = some (.bool back)) (m3 : m "world" = some (.ref wd)) (c2 : cm "exact" = some (.bool ex))
    (hta : IsL s ta (lawOrder (fun v => (rowK as T v).lowIf ex) back (as.map .ref))) (hoa : IsL s oa (lawOrder (fun v => (rowK as T v).lowIf ex) back (as.map .ref))) (hr : RowsOf prog w (LE w.params L) s as T) (ht : Things T ib) (hz : T.length ≤ 9) (hw : WorldAt s wd d)
    (k : ∀ s', Run (LE w.params L) s₀ m cm s' → Step (Hot (LE w.params L)) s s' → Q .next s') :
    wpAny (model prog w) A (exec (inAt 33 17) (LE w.params L)) Q NoE s := by
  have fin := hr.fine ht ex
  have sub : ∀ v ∈ lawOrder (fun v => (rowK as T v).lowIf ex) back (as.map .ref), v ∈ as.map Value.ref := fun v hv => (lawOrder_mem _ _ v _).mp hv
  have it := hr.items ht
  have ii := hr.int ht
  refine if_no (isTrue_or (wpAny_isTrue_Compare1 (g_ld F m1 (g_ld F m4 (op_ne (d := 0) (lt_c R) hta hoa (EqvAll.refl _) (wpAny_truthy_bool ?_))))))
  simp only [Bool.false_eq_true, if_false]
  refine isTrue_or (wpAny_isTrue_Compare1 (Call_ (g_glob F X (.ref 271) (cw_fn (spliced_more (g_ld F m3 (spliced_more (g_ld F m1 (spliced_more (g_ld F m2 (spliced_more (g_ldc F (c := cl w.params L "exact") (by kernel_rfl) c2 (spliced_more (g_str fun t2 s2 h2 => spliced_none ⟨isFn_K ((F.step0 h2).K X), ?_⟩))))))))))))))
  have F2 := F.step0 h2
  refine c_dosort (args := ⟨[.ref wd, .ref ta, .bool back, .bool ex, .str "k" t2], []⟩) (kk := true) (ib := ib) (rev := back) (b := ex) (κ₀ := rowK as T) R.mono (F2.K X) (F2.since.tab TB) (hw.is.step0 h2) (hta.step0 h2) (by rw [lawOrder_len]; simp [hr.1]; omega) (.inr ⟨t2, rfl, rfl⟩) (fun v hv => ((hr.step0 h2).items ht) v (sub v hv)) (fun v hv => ii v (sub v hv)) (by kernel_rfl) fun oa s3 h3 ho no => ?_
  rw [order_twice fin] at ho
  refine g_ld (F2.step0 h3) m1 (op_ne (d := 0) (lt_c R) ho ((hta.step0 h2).step0 h3) (EqvAll.refl _) (wpAny_truthy_bool ?_))
  simp only [Bool.false_eq_true, if_false]
  exact isTrue_or_nil ⟨rfl, k s3 (F2.step0 h3) (h2.trans h3).up⟩
/-- the things themselves -/
theorem c_s18 {oa ta wd d : Addr} {as : List Addr} {T : List Value} {ib back ex : Bool} (X : (KP w.params).In s₀.heap) (TB : TabsOk s₀.heap) (F : Run (LE w.params L) s₀ m cm s) (R : Rm A 600 900) (m1 : m "things" = some (.ref ta)) (m4 : m "ordered" = some (.ref oa)) (m2 : m "back" = some (.bool back)) (m3 : m "world" = some (.ref wd)) (c2 : cm "exact" = some (.bool ex))
    (hT : IsL s ta T) (hoa : IsL s oa (lawOrder (fun v => (rowK as T v).lowIf ex) back (as.map .ref))) (hr : RowsOf prog w (LE w.params L) s as T) (ht : Things T ib) (hz : T.length ≤ 9) (hw : WorldAt s wd d)
    (k : ∀ s', Run (LE w.params L) s₀ m cm s' → Step (Hot (LE w.params L)) s s' → Q .next s') :
    wpAny (model prog w) A (exec (inAt 33 18) (LE w.params L)) Q NoE s := by
  refine if_no (wpAny_isTrue_Compare1 (Call_ (g_glob F X (.ref 271) (cw_fn (spliced_more (g_ld F m3 (spliced_more (g_ld F m1 (spliced_more (g_ld F m2 (spliced_more (g_ldc F (c := cl w.params L "exact") (by kernel_rfl) c2 (spliced_none ⟨isFn_K (F.K X), ?_⟩)))))))))))))
  refine c_dosort (args := ⟨[.ref wd, .ref ta, .bool back, .bool ex], []⟩) (kk := false) (ib := ib) (av := .none) (rev := back) (b := ex) (κ₀ := keyV) R.mono (F.K X) (F.since.tab TB) hw.is hT (by omega) (.inl ⟨rfl, rfl⟩) ht.items ht.int (by kernel_rfl) fun ua s2 h2 hu nu => ?_
  have F2 := F.step0 h2
  refine c_ks X F2 R m4 (hoa.step0 h2) (by rw [lawOrder_len]; simp [hr.1]; omega) (hr.step0 h2) ht (fun v hv => (lawOrder_mem _ _ v _).mp hv) (by kernel_rfl) (by kernel_rfl) fun D s3 hD nD h3 => ?_
  rw [order_things hr ht] at hu
  refine op_ne (d := 0) (lt_c R) (hu.step0 h3) hD (EqvAll.refl _) (wpAny_truthy_bool ?_)
  exact ⟨rfl, k s3 (F2.step0 h3) (h2.trans h3).up⟩
end
end Mine
end
section
open PySem PySem.W PySem.W.X PyProof.Rows
namespace Mine
section
variable {prog : Program} {w : World} {A : Around} {s s₀ : Shared} {env : Env} {m cm : Str → Option Value}
theorem IsGroups.hot {s s' : Shared} {l gs tg} (h : IsGroups s l gs tg) (F : Act env m cm s) (st : Step (Hot env) s s') : IsGroups s' l gs tg :=
  ⟨h.list.hot F st, h.len, fun i p kx a b => let ⟨v, x, y, z⟩ := h.each i p kx a b; ⟨v, x.hot F st, y, z.hot F st⟩⟩
theorem IsGroups.cold {s : Shared} {l gs tg} (h : IsGroups s l gs tg) (F : Act env m cm s) : ∀ p ∈ tg, ¬ Hot env p.1 ∧ ¬ Hot env p.2 := fun p hp => by
  obtain ⟨i, hi⟩ := List.getElem?_of_mem hp
  have hl : i < gs.length := by
    have := (List.getElem?_eq_some_iff.mp hi).1
    rw [h.len] at this; exact this
  obtain ⟨mk, x, _, z⟩ := h.each i p gs[i] hi (by simp [hl])
  exact ⟨fun q => F.notTup q x, fun q => F.notList q z⟩
/-- for a, b in groups -/
theorem clause_groups {a b : Str} {pa pb pos : Pos} {k : Nat} {scope : Scope} {d : Addr} {gs : List (Key × List Value)} {tg : List (Addr × Addr)} {s₁ : Shared} {P : Params} {Q : Value → Shared → Prop} (hh : A.handled = none) (X : (KP P).In s₀.heap) (F : Run env s₀ m cm s) (h01 : Step0 s s₁) (hg : IsGroups s₁ d gs tg) (hz : gs.length ≤ 1000)
    (ha : ∀ C, (cEnv scope env C).kindOf a = some .local) (hb : ∀ C, (cEnv scope env C).kindOf b = some .local) (hp : ∀ C, ((cEnv scope env C).scope.kind == .class || ((cEnv scope env C).scope.kind == .module && (cEnv scope env C).locals != (cEnv scope env C).globals)) = false) (hab : a ≠ b)
    (h : ∀ I s₂ V St Dp, Clause prog w A env (.Tuple [.Name a pa, .Name b pb] k pos) scope s (.ref I) s₂ I Dp (fun b => b = I) gs.length V (fun i m m' => ∃ p q, (∃ pr kx, tg[i]? = some pr ∧ gs[i]? = some kx ∧ q = .ref pr.2 ∧ IsKey p kx.1) ∧ m' a = some p ∧ m' b = some q ∧ ∀ y, y ≠ a → y ≠ b → m' y = m y) St → Q (.ref I) s₂) :
    wpAny (model prog w) A (pyIter (.ref d)) Q NoE s₁ := by
  have F1 := F.step0 h01
  refine iter_list hg.list.is (fun I s₂ hit h2 nI hI4 => ?_) (size_ge (F1.K X))
  have hg2 := hg.step0 h2
  have dI : d ≠ I := ne_new hg.list.some nI
  have h02 := h01.trans h2
  have cg := hg.cold F1.act
  let D : Addr → Prop := fun b => ∃ p ∈ tg, b = p.1 ∨ b = p.2
  have tgI : ∀ p ∈ tg, p.1 ≠ I ∧ p.2 ≠ I := fun p hp => ⟨ne_new (hg.some p hp).1 nI, ne_new (hg.some p hp).2 nI⟩
  have eachP : Itr prog w A (.Tuple [.Name a pa, .Name b pb] k pos) I (fun b => (b = I ∨ b = d) ∨ D b) (fun b => b = I) _ _ _ := Itr.with (itr_list (vs := (tg.map fun p => Value.ref p.1).toArray) hh dI hI4) D (fun s => ∀ (i : Nat) (p : Addr × Addr) (kx : Key × List Value), tg[i]? = some p → gs[i]? = some kx → IsGroup s p.1 p.2 kx) (fun s hP b => by
      rintro ⟨p, hp, e⟩
      obtain ⟨i, hi⟩ := List.getElem?_of_mem hp
      have hl : i < gs.length := by
        have := (List.getElem?_eq_some_iff.mp hi).1
        rw [hg.len] at this; exact this
      obtain ⟨mk, x1, _, x2⟩ := hP i p gs[i] hi (by simp [hl])
      rcases e with rfl | rfl
      · exact x1.some
      · exact x2.some) (fun Z s s' hP st nz i p kx e1 e2 => (hP i p kx e1 e2).step st (fun z => nz _ z ⟨p, List.mem_of_getElem? e1, .inl rfl⟩) fun z => nz _ z ⟨p, List.mem_of_getElem? e1, .inr rfl⟩) (fun b e => by
      rintro ⟨p, hp, e'⟩
      subst e
      rcases e' with e' | e'
      · exact (tgI p hp).1 e'.symm
      · exact (tgI p hp).2 e'.symm)
  have en : (tg.map fun p => Value.ref p.1).toArray.size = gs.length := by simp [hg.len]
  rw [en] at eachP
  refine h I s₂ _ _ _ ⟨rfl, h02, ?_, eachP, ⟨⟨hit, hg2.list.is⟩, hg2.each⟩, hz, ?_, fun i C => ?_⟩
  · rintro b rfl; exact h01.notThere nI
  · rintro b ((rfl | rfl) | ⟨p, hp, rfl | rfl⟩)
    · exact F1.hotAt nI
    · exact fun q => F1.act.notList q hg.list
    · exact (cg p hp).1
    · exact (cg p hp).2
  · refine bnd_pair (G := fun p q => ∃ pr kx, tg[i]? = some pr ∧ gs[i]? = some kx ∧ q = .ref pr.2 ∧ IsKey p kx.1) hh (fun v s hv => ?_) (ha C) (hb C) (hp C) hab
    obtain ⟨⟨hv1, _⟩, hP⟩ := hv
    have hv1 : (tg.map fun p => Value.ref p.1)[i]? = some v := by simpa using hv1
    rw [List.getElem?_map] at hv1
    cases e : tg[i]? with
    | none => rw [e] at hv1; cases hv1
    | some pr =>
      rw [e] at hv1
      have hl : i < gs.length := by
        have := (List.getElem?_eq_some_iff.mp e).1
        rw [hg.len] at this; exact this
      have e2 : gs[i]? = some gs[i] := by simp [hl]
      obtain ⟨mk, ht, hk⟩ := (hP i pr _ e e2).tuple
      exact ⟨pr.1, mk, .ref pr.2, by simpa using hv1.symm, ⟨pr, gs[i], rfl, e2, rfl, hk⟩, ht⟩
end
/-- the law's groups -/
noncomputable def groupsL (as : List Addr) (T : List Value) (ex : Bool) : List (Key × List Value) := groupOn (fun v => (rowK as T v).lowIf ex) (lawOrder (fun v => (rowK as T v).lowIf ex) false (as.map .ref))
theorem told_at {κ₀ : Value → Key} {gs : List (Key × List Value)} {i : Nat} {kx : Key × List Value} (h : (told κ₀ gs)[i]? = some kx) : ∃ k, gs[i]? = some (k, kx.2) ∧ kx.1 = κ₀ (kx.2.headD .none) := by
  unfold told at h
  rw [List.getElem?_map] at h
  cases e : gs[i]? with
  | none => rw [e] at h; cases h
  | some q => rw [e] at h; cases h; exact ⟨q.1, rfl, rfl⟩
theorem told_len (κ₀ : Value → Key) (gs : List (Key × List Value)) : (told κ₀ gs).length = gs.length := by simp [told]
theorem told_snd (κ₀ : Value → Key) (gs : List (Key × List Value)) : (told κ₀ gs).map (·.2) = gs.map (·.2) := by simp [told]
section
variable {prog : Program} {w : World} {env : Env} {s : Shared}
theorem groupsL_len (as T ex) : (groupsL as T ex).length ≤ as.length := by
  unfold groupsL
  refine Nat.le_trans (groupOn_len _ _) ?_
  rw [lawOrder_len]; simp
/-- a group's rows -/
theorem groupsL_at {as : List Addr} {T : List Value} {ex : Bool} {i : Nat} {k : Key} {xs : List Value} (h : (groupsL as T ex)[i]? = some (k, xs)) : (∃ v, xs[0]? = some v ∧ xs.headD .none = v ∧ v ∈ as.map Value.ref ∧ (rowK as T v).lowIf ex = k) ∧ (∀ v ∈ xs, v ∈ as.map Value.ref ∧ (rowK as T v).lowIf ex = k) ∧ xs.length ≤ as.length := by
  have hm := List.mem_of_getElem? h
  have all := groupOn_all (κ := fun v => (rowK as T v).lowIf ex) (lawOrder (fun v => (rowK as T v).lowIf ex) false (as.map .ref)) _ hm
  have sub : ∀ v ∈ xs, v ∈ as.map Value.ref ∧ (rowK as T v).lowIf ex = k := fun v hv => ⟨(lawOrder_mem _ _ v _).mp (all.2 v hv).2, (all.2 v hv).1⟩
  obtain ⟨x, r, e⟩ := List.exists_cons_of_ne_nil (show xs ≠ [] from all.1)
  refine ⟨⟨x, by rw [e]; rfl, by rw [e]; rfl, sub x (by rw [e]; simp)⟩, sub, ?_⟩
  have := (groupOn_key (κ := fun v => (rowK as T v).lowIf ex) (lawOrder (fun v => (rowK as T v).lowIf ex) false (as.map .ref))).2 _ hm
  rw [lawOrder_len] at this
  simpa using this
end
section
variable {prog : Program} {w : World} {A : Around} {s s₀ : Shared} {L : Addr} {m cm : Str → Option Value} {Q : Flow → Shared → Prop}
/-- groups = sync_do_groupby(world, rows, 'k', case_sensitive=exact) -/
theorem c_s19 {ra wd d : Addr} {as : List Addr} {T : List Value} {ib ex : Bool} (X : (KP w.params).In s₀.heap) (TB : TabsOk s₀.heap) (F : Run (LE w.params L) s₀ m cm s) (R : Rm A 600 900) (m1 : m "rows" = some (.ref ra)) (m3 : m "world" = some (.ref wd)) (c2 : cm "exact" = some (.bool ex))
    (hl : IsL s ra (as.map .ref)) (hr : RowsOf prog w (LE w.params L) s as T) (ht : Things T ib) (hz : T.length ≤ 9) (hw : WorldAt s wd d)
    (k : ∀ ga tg s', Run (LE w.params L) s₀ (stv "groups" (.ref ga) m) cm s' → Step (Hot (LE w.params L)) s s' → IsGroups s' ga (told (rowK as T) (groupsL as T ex)) tg → Q .next s') :
    wpAny (model prog w) A (exec (inAt 33 19) (LE w.params L)) Q NoE s := by
  refine wpAny_Assign_Name (CallK_ (g_glob F X (.ref 316) (cw_fnK ["case_sensitive"] (spliced_more (g_ld F m3 (spliced_more (g_ld F m1 (spliced_more (g_str fun t2 s2 h2 => spliced_none (kw_cons (g_ldc (F.step0 h2) (c := cl w.params L "exact") (by kernel_rfl) c2 (kw_nil ⟨isFn_K ((F.step0 h2).K X), ?_⟩))))))))))))
  have F2 := F.step0 h2
  refine c_groups (args := ⟨[.ref wd, .ref ra, .str "k" t2], [("case_sensitive", .bool ex)]⟩) (t := t2) (b := ex) (ib := ib) (κ₀ := rowK as T) R.mono (F2.K X) (F2.since.tab TB) (hw.is.step0 h2) (hl.step0 h2) (by simp [hr.1]; omega) ((hr.step0 h2).items ht) (hr.int ht) (by kernel_rfl) fun ga tg s3 h3 hg ng => ?_
  refine g_st (F2.step0 h3) fun s4 F4 h4 => ?_
  exact k ga tg s4 F4 ((h2.trans h3).up.trans h4) (hg.hot (F2.act.step0 h3) h4)
/-- groups put together are the row sorted; each is told by its first -/
theorem c_s21 {ga xa : Addr} {tg : List (Addr × Addr)} {as : List Addr} {T : List Value} {ib ex : Bool} (X : (KP w.params).In s₀.heap) (F : Run (LE w.params L) s₀ m cm s) (R : Rm A 600 900) (m1 : m "groups" = some (.ref ga)) (m2 : m "rising" = some (.ref xa))
    (hg : IsGroups s ga (told (rowK as T) (groupsL as T ex)) tg) (hx : IsL s xa (lawOrder (fun v => (rowK as T v).lowIf ex) false (as.map .ref))) (hr : RowsOf prog w (LE w.params L) s as T) (ht : Things T ib) (hz : T.length ≤ 9)
    (k : ∀ s', Run (LE w.params L) s₀ m cm s' → Step (Hot (LE w.params L)) s s' → Q .next s') :
    wpAny (model prog w) A (exec (inAt 33 21) (LE w.params L)) Q NoE s := by
  have glen : (told (rowK as T) (groupsL as T ex)).length ≤ 9 := by
    rw [told_len]
    refine Nat.le_trans (groupsL_len as T ex) ?_
    rw [hr.1]; exact hz
  refine if_no (isTrue_or (wpAny_isTrue_Compare1 (Call_ (g_glob F X (.ref 400) (cw_fn (spliced_more (comp_pure X F (g_ld F m1 (clause_groups R.handled X F (Step.refl _ _) hg (by omega) (fun C => by kernel_rfl) (fun C => by kernel_rfl) (fun C => by kernel_rfl) (by decide) fun I s2 V St Dp cla => ⟨I, _, _, _, V, _, St, fun i y => ∃ pr, tg[i]? = some pr ∧ y = .ref pr.2, cla, ?_, fun D ys s3 hD hl hG nD h3 => ?_⟩)))))))))
  · rintro i C mm m' s3 hi ⟨p, q, ⟨pr, kx, e1, e2, rfl, hk⟩, b1, b2, bk⟩ R3 st3
    exact g_ld R3 b2 ⟨Step.refl _ _, pr, e1, rfl⟩
  · have F3 := F.step0 h3
    have hg3 := hg.step0 h3
    have rows3 : Mine.Rows s3 D ((groupsL as T ex).map (·.2)) := by
      refine ⟨tg.map (·.2), ?_, by simp [hg.len, told_len], fun j r xs e1 e2 => ?_⟩
      · have : ys = (tg.map (·.2)).map Value.ref := by
          apply List.ext_getElem?
          intro i
          by_cases hi : i < ys.length
          · obtain ⟨pr, e, e'⟩ := hG i ys[i] (by simp [hi])
            rw [List.getElem?_eq_getElem hi, e', List.getElem?_map, List.getElem?_map, e]; rfl
          · rw [List.getElem?_eq_none (by omega), List.getElem?_eq_none (by simp [hg.len]; omega)]
        rw [← this]; exact hD
      · rw [← told_snd (rowK as T), List.getElem?_map] at e2
        rw [List.getElem?_map] at e1
        cases q1 : tg[j]? with
        | none => rw [q1] at e1; cases e1
        | some pr =>
          cases q2 : (told (rowK as T) (groupsL as T ex))[j]? with
          | none => rw [q2] at e2; cases e2
          | some kx =>
            rw [q1] at e1; rw [q2] at e2
            cases e1; cases e2
            obtain ⟨_, _, _, z⟩ := hg3.each j pr kx q1 q2
            exact z
    have flat : ((groupsL as T ex).map (·.2)).flatten = lawOrder (fun v => (rowK as T v).lowIf ex) false (as.map .ref) := group_flat _
    refine spliced_none ⟨isFn_K (F3.K X), c_joined R.mono (F3.K X) rows3 (by rw [flat, lawOrder_len]; simp [hr.1]; omega) fun j s4 h4 hj nj => ?_⟩
    rw [flat] at hj
    have F4 := F3.step0 h4
    have st4 := h3.trans h4
    refine g_ld F4 m2 (op_ne (d := 0) (lt_c R) hj (hx.step0 st4) (EqvAll.refl _) (wpAny_truthy_bool ?_))
    simp only [Bool.false_eq_true, if_false]
    have hg4 := hg.step0 st4
    refine isTrue_or (wpAny_isTrue_Compare1 (comp_pure X F4 (g_ld F4 m1 (clause_groups R.handled X F4 (Step.refl _ _) hg4 (by omega) (fun C => by kernel_rfl) (fun C => by kernel_rfl) (fun C => by kernel_rfl) (by decide) fun I s5 V St Dp cla => ⟨I, _, _, _, V, _, St, fun i y => ∃ kx, (told (rowK as T) (groupsL as T ex))[i]? = some kx ∧ IsKey y kx.1, cla, ?_, fun D2 ys2 s6 hD2 hl2 hG2 nD2 h6 => ?_⟩))))
    · rintro i C mm m' s6 hi ⟨p, q, ⟨pr, kx, e1, e2, rfl, hk⟩, b1, b2, bk⟩ R6 st6
      exact g_ld R6 b1 ⟨Step.refl _ _, kx, e2, hk⟩
    · have F6 := F4.step0 h6
      have hg6 := hg4.step0 h6
      have hr6 := hr.step0 (st4.trans h6)
      refine comp_pure X F6 (g_ld F6 m1 (clause_groups R.handled X F6 (Step.refl _ _) hg6 (by omega) (fun C => by kernel_rfl) (fun C => by kernel_rfl) (fun C => by kernel_rfl) (by decide) fun I s7 V St Dp cla => ⟨I, _, _, _, V, _, St, fun i y => ∃ kx, (told (rowK as T) (groupsL as T ex))[i]? = some kx ∧ IsKey y kx.1, cla, ?_, fun D3 ys3 s8 hD3 hl3 hG3 nD3 h8 => ?_⟩))
      · rintro i C mm m' s8 hi ⟨p, q, ⟨pr, kx, e1, e2, rfl, hk⟩, b1, b2, bk⟩ R8 st8
        obtain ⟨k0, e3, e4⟩ := told_at e2
        obtain ⟨⟨v, v0, vh, vm, _⟩, _, xl⟩ := groupsL_at e3
        obtain ⟨mk, hT, _, hxs⟩ := (hg6.hot F6.act st8).each i pr kx e1 e2
        obtain ⟨j, a, rfl, _, hrow, hth, _⟩ := (hr6.hot st8).memT ht vm
        refine Subscript_ (Subscript_ (g_ld R8 b2 (g_int fun t9 s9 h9 => sub_item (k := 0) (hxs.step0 h9) v0 (by rw [hr.1] at xl; omega) (g_str fun t10 s10 h10 => sub_k (hrow.step0 (h9.trans h10)) (fun s11 h11 => ⟨(h9.trans h10).trans h11, kx, e2, ?_⟩) rfl) rfl)))
        rw [e4, vh]; exact hth.1
      · have F8 := F6.step0 h8
        refine op_ne (d := 0) (lt_c R) (hD2.step0 h8) hD3 ⟨hl2.trans hl3.symm, fun j x y e1 e2 => ?_⟩ (wpAny_truthy_bool ?_)
        · obtain ⟨kx, q1, q2⟩ := hG2 j x e1
          obtain ⟨kx', q3, q4⟩ := hG3 j y e2
          rw [q1] at q3; cases q3
          exact Eqv.key q2 q4
        · simp only [Bool.false_eq_true, if_false]
          exact isTrue_or_nil ⟨rfl, k s8 F8 (st4.trans (h6.trans h8)).up⟩
/-- marks = [_law_low(thing, exact) for thing, group in groups] -/
theorem c_s22 {ga : Addr} {tg : List (Addr × Addr)} {as : List Addr} {T : List Value} {ib ex : Bool} (X : (KP w.params).In s₀.heap) (F : Run (LE w.params L) s₀ m cm s) (R : Rm A 600 900) (m1 : m "groups" = some (.ref ga)) (c2 : cm "exact" = some (.bool ex))
    (hg : IsGroups s ga (told (rowK as T) (groupsL as T ex)) tg) (hr : RowsOf prog w (LE w.params L) s as T) (ht : Things T ib) (hz : T.length ≤ 9)
    (k : ∀ ma M s', Run (LE w.params L) s₀ m (stv "marks" (.ref ma) cm) s' → Step (Hot (LE w.params L)) s s' → IsL s' ma M → M.length = (groupsL as T ex).length → (∀ (i : Nat) (y : Value), M[i]? = some y → ∃ kx : Key × List Value, (groupsL as T ex)[i]? = some kx ∧ IsKey y kx.1) → ma ≠ ga → Q .next s') :
    wpAny (model prog w) A (exec (inAt 33 22) (LE w.params L)) Q NoE s := by
  have glen : (told (rowK as T) (groupsL as T ex)).length ≤ 9 := by
    rw [told_len]
    refine Nat.le_trans (groupsL_len as T ex) ?_
    rw [hr.1]; exact hz
  refine wpAny_Assign_Name (comp_pure X F (g_ld F m1 (clause_groups R.handled X F (Step.refl _ _) hg (by omega) (fun C => by kernel_rfl) (fun C => by kernel_rfl) (fun C => by kernel_rfl) (by decide) fun I s2 V St Dp cla => ⟨I, _, _, _, V, _, St, fun i y => ∃ kx, (groupsL as T ex)[i]? = some kx ∧ IsKey y kx.1, cla, ?_, fun D ys s3 hD hl hG nD h3 => ?_⟩)))
  · rintro i C mm m' s3 hi ⟨p, q, ⟨pr, kx, e1, e2, rfl, hk⟩, b1, b2, bk⟩ R3 st3
    obtain ⟨k0, e3, e4⟩ := told_at e2
    obtain ⟨⟨v, v0, vh, vm, vk⟩, _, xl⟩ := groupsL_at e3
    obtain ⟨j, a, rfl, _, hrow, hth, _⟩ := hr.memT ht vm
    have hth' : IsThing p (rowK as T (.ref a)) := ⟨by rw [← vh, ← e4]; exact hk, hth.2⟩
    refine Call_ (g_glob R3 X (.ref 388) (cw_fn (spliced_more (g_ld R3 b1 (spliced_more (g_ldc R3 (c := cl w.params L "exact") (by kernel_rfl) c2 (spliced_none ⟨isFn_K (R3.K X), c_low R.mono (R3.K X) hth' fun r s4 h4 hk4 => ⟨h4, _, e3, ?_⟩⟩)))))))
    rw [vk] at hk4; exact hk4
  · refine g_stc (F.step0 h3) (c := cl w.params L "marks") (by kernel_rfl) fun s4 F4 h4 => ?_
    exact k D ys s4 F4 (h3.up.trans h4) (hD.hot (F.act.step0 h3) h4) (by rw [hl, told_len]) hG (ne_new hg.list.some nD).symm
end
end Mine
end
section
open PySem PySem.W PySem.W.X PyProof.Rows
namespace Mine
theorem Key.same_of_lt {a b : Key} (h : a.lt b = true) : a.same b = true := by cases a <;> cases b <;> simp_all [Key.lt, Key.same]
theorem IsInner.stepX {X : Addr → Prop} {s s' : Shared} {f : Addr} {fd : FuncData} (x : IsInner s f fd) (st : Step X s s') (nf : ¬ X f) (nc : ∀ c o, s.heap.get? c = some o → o.cls = .type "code" → (∃ vs, o.data = .fields vs) → ¬ X c) : IsInner s' f fd :=
  ⟨st.keep _ _ x.1 rfl nf, let ⟨c, oc, vs, t, e, g, cl, d, v⟩ := x.2; ⟨c, oc, vs, t, e, st.keep _ _ g (by unfold isTab; rw [cl]) (nc c oc g cl ⟨vs, d⟩), cl, d, v⟩⟩
theorem zip_apart (n l d : Nat) (h1 : l < n) (h2 : d < n) (h3 : l ≠ d) : ZipApart (n + 4) (n + 2) (n + 3) n (n + 1) l d := by
  constructor <;> (show @Ne Nat _ _) <;> omega
section
variable {prog : Program} {w : World} {A : Around} {s s₀ : Shared} {env : Env} {m cm : Str → Option Value}
theorem cmp_ne_same {v u : Value} {k : Key} {Q : Value → Shared → Prop} (hv : IsKey v k) (hu : IsKey u k) (h : Q (.bool false) s) : wpAny (model prog w) A (compareOp .NotEq v u) Q NoE s := by
  cases k with
  | i n =>
    obtain ⟨t, rfl⟩ := hv
    obtain ⟨t', rfl⟩ := hu
    refine PyProof.Rows.ne_int ?_
    rw [show (n != n) = false from by simp]; exact h
  | s c =>
    obtain ⟨x, t, rfl, hx⟩ := hv
    obtain ⟨y, t', rfl, hy⟩ := hu
    have : x = y := str_of_codes (hx.trans hy.symm)
    subst this
    refine PyProof.Rows.ne_str ?_
    rw [show (x != x) = false from by simp]; exact h
/-- for a, (b, c) in zip(list, groups) -/
theorem clause_zip {a b c : Str} {pa pb pc pos pos2 : Pos} {k k2 : Nat} {scope : Scope} {l d : Addr} {M : List Value} {gs : List (Key × List Value)} {tg : List (Addr × Addr)} {s₁ : Shared} {P : Params} {Q : Value → Shared → Prop} (hh : A.handled = none) (X : (KP P).In s₀.heap) (F : Run env s₀ m cm s) (h01 : Step0 s s₁) (hM : IsL s₁ l M) (hg : IsGroups s₁ d gs tg) (hl : M.length = gs.length) (hld : l ≠ d)
    (ha : ∀ C, (cEnv scope env C).kindOf a = some .local) (hb : ∀ C, (cEnv scope env C).kindOf b = some .local) (hc : ∀ C, (cEnv scope env C).kindOf c = some .local) (hp : ∀ C, ((cEnv scope env C).scope.kind == .class || ((cEnv scope env C).scope.kind == .module && (cEnv scope env C).locals != (cEnv scope env C).globals)) = false) (hab : a ≠ b) (hac : a ≠ c) (hbc : b ≠ c)
    (h : ∀ I s₂ V St Dp Y, I = I → Value.ref I = .ref I → Step0 s s₂ → (∀ b, Y b → s₁.heap.get? b = none) → Itr prog w A (.Tuple [.Name a pa, .Tuple [.Name b pb, .Name c pc] k2 pos2] k pos) I Dp Y gs.length V St → St 0 s₂ → (∀ b, Dp b → ¬ Hot env b) →
      (∀ i C, Bnd prog w A (cEnv scope env C) (.Tuple [.Name a pa, .Tuple [.Name b pb, .Name c pc] k2 pos2] k pos) (V i) (fun m m' => ∃ p q r, (∃ pr kx, tg[i]? = some pr ∧ gs[i]? = some kx ∧ M[i]? = some p ∧ r = .ref pr.2) ∧ m' a = some p ∧ m' b = some q ∧ m' c = some r ∧ ∀ y, y ≠ a → y ≠ b → y ≠ c → m' y = m y)) → Step0 s₁ s₂ → Q (.ref I) s₂) :
    wpAny (model prog w) A (call (.type "zip") [.ref l, .ref d]) (fun xv s₂ => wpAny (model prog w) A (pyIter xv) Q NoE s₂) NoE s₁ := by
  have F1 := F.step0 h01
  refine call_zip_2 hM.is hg.list.is fun h' hz hTI hTO hi1 hi2 hsz hk => wpAny_pyIter_zip hz ?_
  have h12 : Step0 s₁ { s₁ with heap := h' } := Step0.of_heap (t := s₁.toks) hk
  generalize hs2 : ({ s₁ with heap := h' } : Shared) = s₂ at h12
  have eh : h' = s₂.heap := by rw [← hs2]
  subst eh
  have n0 : ∀ j, s₁.heap.get? (s₁.heap.objs.size + j) = none := fun j => Heap.get?_none_of_le (Nat.le_add_right _ _)
  have s4 := size_ge (F1.K X)
  have llt : l < s₁.heap.objs.size := by obtain ⟨o, e⟩ := hM.some; exact Heap.lt_size e
  have dlt : d < s₁.heap.objs.size := by obtain ⟨o, e⟩ := hg.list.some; exact Heap.lt_size e
  have new : ∀ p ∈ tg, p.1 < s₁.heap.objs.size ∧ p.2 < s₁.heap.objs.size := fun p hp => by
    obtain ⟨⟨o, e⟩, ⟨o2, e2⟩⟩ := hg.some p hp
    exact ⟨Heap.lt_size e, Heap.lt_size e2⟩
  have cg := hg.cold F1.act
  have hot : ∀ j, ¬ Hot env (s₁.heap.objs.size + j) := fun j => F1.act.hot (n0 j)
  generalize hn : s₁.heap.objs.size = n at *
  have Zp : ZipApart (n + 4) (n + 2) (n + 3) n (n + 1) l d := zip_apart n l d llt dlt hld
  let D : Addr → Prop := fun b => ∃ p ∈ tg, b = p.1 ∨ b = p.2
  have T0 := itr_zip (prog := prog) (w := w) (A := A) (elts := [.Name a pa, .Tuple [.Name b pb, .Name c pc] k2 pos2]) (k := k) (pos := pos) (xs := M.toArray) (ys := (tg.map fun p => Value.ref p.1).toArray) hh Zp (fun b hb => by
    simp only [List.mem_cons, List.not_mem_nil, or_false] at hb
    rcases hb with rfl | rfl | rfl | rfl <;> first | exact s4 | exact Nat.le_trans s4 (Nat.le_add_right _ _))
  have T1 := Itr.with T0 D (fun s => ∀ (i : Nat) (p : Addr × Addr) (kx : Key × List Value), tg[i]? = some p → gs[i]? = some kx → IsGroup s p.1 p.2 kx) (fun s hP b => by
      rintro ⟨p, hp, e⟩
      obtain ⟨i, hi⟩ := List.getElem?_of_mem hp
      have hl : i < gs.length := by
        have := (List.getElem?_eq_some_iff.mp hi).1
        rw [hg.len] at this; exact this
      obtain ⟨mk, x1, _, x2⟩ := hP i p gs[i] hi (by simp [hl])
      rcases e with rfl | rfl
      · exact x1.some
      · exact x2.some) (fun Z s s' hP st nz i p kx e1 e2 => (hP i p kx e1 e2).step st (fun z => nz _ z ⟨p, List.mem_of_getElem? e1, .inl rfl⟩) fun z => nz _ z ⟨p, List.mem_of_getElem? e1, .inr rfl⟩) (fun b e => by
      rintro ⟨p, hp, e'⟩
      have := new p hp
      simp only [List.mem_cons, List.not_mem_nil, or_false] at e
      have hb : b < n := e'.elim (fun q => q ▸ this.1) fun q => q ▸ this.2
      rcases e with rfl | rfl | rfl | rfl <;> first | exact absurd hb (Nat.lt_irrefl _) | exact absurd hb (Nat.not_lt.mpr (Nat.le_add_right _ _)))
  have en : min M.toArray.size (tg.map fun p => Value.ref p.1).toArray.size = gs.length := by simp [hg.len, hl]
  rw [en] at T1
  refine h (n + 4) s₂ _ _ _ _ rfl rfl (h01.trans h12) (fun b hb => ?_) T1 ⟨⟨hz, hTI, ⟨_, _, hTO⟩, hi1, hi2, (hM.step0 h12).is, (hg.list.step0 h12).is⟩, (hg.step0 h12).each⟩ ?_ (fun i C => ?_) h12
  · simp only [List.mem_cons, List.not_mem_nil, or_false] at hb
    rcases hb with rfl | rfl | rfl | rfl
    · exact n0 4
    · exact n0 3
    · exact n0 0
    · exact n0 1
  · rintro b (hb | ⟨p, hp, rfl | rfl⟩)
    · simp only [List.mem_cons, List.not_mem_nil, or_false] at hb
      rcases hb with rfl | rfl | rfl | rfl | rfl | rfl | rfl
      · exact hot 4
      · exact hot 2
      · exact hot 3
      · exact hot 0
      · exact hot 1
      · exact fun q => F1.act.notList q hM
      · exact fun q => F1.act.notList q hg.list
    · exact (cg p hp).1
    · exact (cg p hp).2
  · refine bnd_pair3 (G := fun p q r => ∃ pr kx, tg[i]? = some pr ∧ gs[i]? = some kx ∧ M[i]? = some p ∧ r = .ref pr.2) hh (fun v s hv => ?_) (ha C) (hb C) (hc C) (hp C) hab hac hbc
    obtain ⟨⟨T, vals, rfl, ⟨x, y, e1, e2, rfl⟩, ht⟩, hP⟩ := hv
    have e1 : M[i]? = some x := by simpa using e1
    have e2 : (tg.map fun p => Value.ref p.1)[i]? = some y := by simpa using e2
    rw [List.getElem?_map] at e2
    cases e : tg[i]? with
    | none => rw [e] at e2; cases e2
    | some pr =>
      rw [e] at e2
      cases e2
      have hl : i < gs.length := by
        have := (List.getElem?_eq_some_iff.mp e).1
        rw [hg.len] at this; exact this
      obtain ⟨mk, ht2, hk⟩ := (hP i pr gs[i] e (by simp [hl])).tuple
      exact ⟨T, x, pr.1, mk, .ref pr.2, rfl, ⟨pr, gs[i], rfl, by simp [hl], e1, rfl⟩, ht, ht2⟩
end
end Mine
end
section
open PySem PySem.W PySem.W.X PyProof.Rows
namespace Mine
theorem IsInner.far {Z : Addr → Prop} {s s₁ s₂ : Shared} {f : Addr} {fd : FuncData} (x : IsInner s f fd) (h : Step0 s s₁) (st : Step Z s₁ s₂) (nf : ¬ Z f) (nc : ∀ c o, s.heap.get? c = some o → o.cls = .type "code" → (∃ vs, o.data = .fields vs) → ¬ Z c) : IsInner s₂ f fd :=
  ⟨st.keep _ _ (h.at x.1) rfl nf, let ⟨c, oc, vs, t, e, g, cl, d, v⟩ := x.2; ⟨c, oc, vs, t, e, st.keep _ _ (h.at g (by unfold isTab; rw [cl])) (by unfold isTab; rw [cl]) (nc c oc g cl ⟨vs, d⟩), cl, d, v⟩⟩
/-- the groups' marks rise -/
theorem groupsL_rise {prog : Program} {w : World} {env : Env} {s : Shared} {as : List Addr} {T : List Value} {ib ex : Bool} (hr : RowsOf prog w env s as T) (ht : Things T ib) {i : Nat} {kx ky : Key × List Value} (h1 : (groupsL as T ex)[i]? = some kx) (h2 : (groupsL as T ex)[i + 1]? = some ky) : kx.1.lt ky.1 = true := by
  unfold groupsL at h1 h2
  have fin := hr.fine ht ex
  have := (group_heads _ (fin.sub fun v hv => (lawOrder_mem _ false v _).mp hv) (order_rising (b := false) fin)).2
  have p := List.pairwise_iff_getElem.mp this
  have l1 := (List.getElem?_eq_some_iff.mp h1)
  have l2 := (List.getElem?_eq_some_iff.mp h2)
  obtain ⟨b1, e1⟩ := l1
  obtain ⟨b2, e2⟩ := l2
  have := p i (i + 1) (by rw [List.length_map]; exact b1) (by rw [List.length_map]; exact b2) (Nat.lt_succ_self _)
  rw [List.getElem_map, List.getElem_map] at this
  rw [e1, e2] at this
  exact this
section
variable {prog : Program} {w : World} {A : Around} {s s₀ : Shared} {L : Addr} {m cm : Str → Option Value} {Q : Flow → Shared → Prop}
theorem c_s23 {ga ma f : Addr} {tg : List (Addr × Addr)} {as : List Addr} {T : List Value} {ib ex : Bool} {M : List Value} {nm cv ct : Value} (X : (KP w.params).In s₀.heap) (F : Run (LE w.params L) s₀ m cm s) (R : Rm A 600 900) (m1 : m "groups" = some (.ref ga)) (c1 : cm "marks" = some (.ref ma)) (c2 : cm "exact" = some (.bool ex)) (c3 : cm "key" = some (.ref f))
    (hg : IsGroups s ga (told (rowK as T) (groupsL as T ex)) tg) (hM : IsL s ma M) (hMl : M.length = (groupsL as T ex).length) (hMk : ∀ (i : Nat) (y : Value), M[i]? = some y → ∃ kx : Key × List Value, (groupsL as T ex)[i]? = some kx ∧ IsKey y kx.1) (hgm : ma ≠ ga) (hf : IsInner s f (KeyFd w.params L nm cv ct)) (cf : ¬ Hot (LE w.params L) f)
    (hr : RowsOf prog w (LE w.params L) s as T) (ht : Things T ib) (hz : T.length ≤ 9)
    (k : ∀ s', Run (LE w.params L) s₀ m cm s' → Step (Hot (LE w.params L)) s s' → Q .next s') :
    wpAny (model prog w) A (exec (inAt 33 23) (LE w.params L)) Q NoE s := by
  have glen : (groupsL as T ex).length ≤ 9 := by
    refine Nat.le_trans (groupsL_len as T ex) ?_
    rw [hr.1]; exact hz
  refine if_no (isTrue_or (wpAny_isTrue_Compare1 (comp_rule X F (Call_ (g_built F X (.type "enumerate") (cw_type (spliced_more (sub_slice (g_ldc F (c := cl w.params L "marks") (by kernel_rfl) c1 ?_)))))))))
  show wpAny (model prog w) A (eval _ _) _ _ _
  refine g_int fun t2 s2 h2 => wpAny_pure ⟨ma, M, some ((1 : Nat) : Int), none, rfl, hM.step0 h2, by omega, .int _ _, .none, fun r s3 h3 hr3 nr => spliced_none ?_⟩
  rw [pick_from] at hr3
  have h03 := h2.trans h3
  refine clause_enum (a := "k") (b := "mark") R.handled X F h03 hr3 (by simp; omega) (fun C => by kernel_rfl) (fun C => by kernel_rfl) (fun C => by kernel_rfl) (by decide) fun I it s4 V St cla => ⟨I, _, _, _, V, _, St, cla.1, cla.2.1, cla.2.2.1, cla.2.2.2.1, cla.2.2.2.2.1, cla.2.2.2.2.2.1, cla.2.2.2.2.2.2.1, cla.2.2.2.2.2.2.2, fun Z hZ => ⟨fun i ys s => ys = [], ⟨fun _ _ => rfl, fun _ _ _ _ j _ => j, ?_⟩, fun D ys s5 j hD nD h5 _ => ?_⟩⟩
  · rintro i ys C mm m' s5 hi rfl ⟨p, q, ⟨⟨ti, rfl⟩, hq⟩, b1, b2, bk⟩ R5 st5 ex5
    have stH := step_hot cla.2.1 cla.2.2.1 hZ st5
    have hM5 := hM.hot F.act stH
    rw [List.getElem?_drop] at hq
    obtain ⟨ky, ey, hky⟩ := hMk _ q hq
    have hi' : i < M.length := by have := (List.getElem?_eq_some_iff.mp hq).1; omega
    obtain ⟨kx, exx, hkx⟩ := hMk i M[i] (by simp [hi'])
    have ey' : (groupsL as T ex)[i + 1]? = some ky := by rw [Nat.add_comm]; exact ey
    have lt := groupsL_rise hr ht exx ey'
    refine wpAny_tests_one (isTrue_not (wpAny_isTrue_Compare1 (Subscript_ (g_ldc R5 (c := cl w.params L "marks") (by kernel_rfl) c1 (g_ld R5 b1 (sub_item (k := i) hM5 (by simp [hi']) (by omega) (g_ld R5 b2 (cmp_lt hkx hky (Key.same_of_lt lt) (wpAny_truthy_bool ?_))) rfl))))))
    rw [lt]
    exact ⟨Step.refl _ _, by simp⟩
  · subst j
    have F5 := F.step0 h5
    refine List_ (spliced_none (op_newList (by simp) (fun e6 s6 h6 he6 ne6 _ => op_ne (d := 0) (lt_c R) (hD.step0 h6) he6 (EqvAll.refl _) (wpAny_truthy_bool ?_)) (size_ge (F5.K X))))
    simp only [Bool.false_eq_true, if_false]
    have st6 := h5.trans h6
    have F6 := F.step0 st6
    have hg6 := hg.step0 st6
    have hr6 := hr.step0 st6
    have hf6 := hf.step0 st6
    have tl : (told (rowK as T) (groupsL as T ex)).length ≤ 9 := by rw [told_len]; exact glen
    refine isTrue_or (wpAny_isTrue_Compare1 (comp2_ruleO X F6 R.handled (Call_ (g_built F6 X (.type "zip") (cw_type (spliced_more (g_ldc F6 (c := cl w.params L "marks") (by kernel_rfl) c1 (spliced_more (g_ld F6 m1 (spliced_none (clause_zip R.handled X F6 (Step.refl _ _) (hM.step0 st6) hg6 (by rw [told_len]; exact hMl) hgm (fun C => by kernel_rfl) (fun C => by kernel_rfl) (fun C => by kernel_rfl) (fun C => by kernel_rfl) (by decide) (by decide) (by decide) fun I2 s7 V2 St2 Dp2 Y2 _ e2 h67 yn2 Tr2 st2 cold2 bd2 _ => ⟨I2, Dp2, Y2, _, V2, _, fun y => y == "mark", St2, e2, h67, yn2, Tr2, st2, cold2, bd2, fun Z hZ => ⟨fun i ys s => ys = [], ⟨fun _ _ => rfl, fun _ _ _ _ j _ => j, ?_⟩, fun D2 ys2 s8 j2 hD2 nD2 h8 _ => ?_⟩⟩)))))))))))
    · rintro i ys C mm m' s8 hi rfl ⟨pv, qv, rv, ⟨pr, kx, e1, e3, e4, rfl⟩, b1, b2, b3, bk⟩ R8 zC st8 ex8
      have oldZ : ∀ {b}, (∃ o, s6.heap.get? b = some o) → ¬ Hot (LE w.params L) b → ¬ Z b := fun {b} ⟨o, e⟩ nh => hZ b (h67.there b o e id) (fun y => by rw [yn2 b y] at e; cases e) nh
      have hg7 := hg6.step0 h67
      have cgr := hg6.cold F6.act pr (List.mem_of_getElem? e1)
      have gro := hg6.some pr (List.mem_of_getElem? e1)
      have grp8 := (hg7.each i pr kx e1 e3).step st8 (oldZ gro.1 cgr.1) (oldZ gro.2 cgr.2)
      obtain ⟨mk8, _, _, hxs8⟩ := grp8
      obtain ⟨k0, e5, e6⟩ := told_at e3
      obtain ⟨_, allx, xl⟩ := groupsL_at e5
      obtain ⟨kz, e7, hkz⟩ := hMk i pv e4
      rw [e5] at e7; cases e7
      unfold InnerO
      refine g_ld R8 b3 (iter_list hxs8.is (fun I3 s9 hit3 h9 nI3 hI34 => ?_) (size_ge (R8.K X)))
      have pI : pr.2 ≠ I3 := ne_new hxs8.some nI3
      refine ⟨I3, _, _, _, _, fun j m m' => ∃ v, kx.2.toArray[j]? = some v ∧ m' = fun y : Str => if y = "row" then some v else m y, _, rfl, h9, ?_, itr_list R.handled pI hI34, ⟨hit3, (hxs8.step0 h9).is⟩, ?_, ?_, ?_, ?_⟩
      · rintro b rfl; exact nI3
      · rintro b (rfl | rfl)
        · intro z
          obtain ⟨o, e⟩ := ex8 _ z
          rw [nI3] at e; cases e
        · exact oldZ gro.2 cgr.2
      · exact fun j => bnd_name (fun v s h => h.1) (by kernel_rfl) (by kernel_rfl)
      · rintro j m m' ⟨v, _, rfl⟩ y hy
        have : y = "mark" := by simpa using hy
        subst this
        exact keepN (m := m) rfl
      · refine ⟨fun j ys s => ys = [], fun j ys s h => by rw [h]; decide, rfl, fun j ys s s' h _ => h, ?_, fun ys s h => h⟩
        rintro j ys m₂ s10 hj rfl ⟨mm2, v, hv, rfl⟩ kp R10 h7_10 ex10 outer
        have hv' : kx.2[j]? = some v := by simpa using hv
        obtain ⟨vm, vk⟩ := allx v (List.mem_of_getElem? hv')
        have hr7 := hr6.step0 h67
        have hr10 : RowsOf prog w (LE w.params L) s10 as T := ⟨hr7.1, hr7.2.1, fun i a e => ⟨(hr7.2.2 i a e).1, (hr7.2.2 i a e).2.step h7_10 (oldZ (hr6.2.2 i a e).2.some (hr7.2.2 i a e).1)⟩⟩
        obtain ⟨j2, a, rfl, _, hrow, hth, _⟩ := hr10.memT ht vm
        have hf10 : IsInner s10 f (KeyFd w.params L nm cv ct) := hf6.far h67 h7_10 (oldZ ⟨_, hf6.1⟩ cf) fun c o e cls d => oldZ ⟨o, e⟩ (F6.code e cls d)
        have hc10 : s10.heap.IsCell (cl w.params L "exact") (some (.bool ex)) := by
          have := outer "exact" (cl w.params L "exact") ⟨by kernel_rfl, by kernel_rfl⟩
          rw [c2] at this; exact this
        have mark10 : (fun y : Str => if y = "row" then some (Value.ref a) else mm2 y) "mark" = some pv := by
          rw [kp "mark" (by decide)]; exact b1
        refine wpAny_tests_one (wpAny_isTrue_Compare1 (Call_ (g_ldc R10 (c := cl w.params L "key") (by kernel_rfl) c3 (cw_fn (spliced_more (g_ld R10 putN (spliced_none ⟨hf10.fn, c_key R.mono (R10.K X) hf10 hc10 hrow hth fun r s11 h11 hkr => g_ld (R10.step0 h11) mark10 (cmp_ne_same (by rw [vk] at hkr; exact hkr) hkz (wpAny_truthy_bool ?_))⟩)))))))
        exact ⟨h11, by simp⟩
    · subst j2
      have F8 := F6.step0 h8
      refine List_ (spliced_none (op_newList (by simp) (fun e9 s9 h9 he9 ne9 _ => op_ne (d := 0) (lt_c R) (hD2.step0 h9) he9 (EqvAll.refl _) (wpAny_truthy_bool ?_)) (size_ge (F8.K X))))
      simp only [Bool.false_eq_true, if_false]
      exact isTrue_or_nil ⟨rfl, k s9 (F8.step0 h9) (st6.trans (h8.trans h9)).up⟩
end
end Mine
end
section
open PySem PySem.W PySem.W.X PyProof.Rows
namespace Mine
/-! the firsts -/
theorem uniqOn_key {κ : Value → Key} : ∀ (l : List Value), ∀ u ∈ l, ∃ u' ∈ uniqOn κ l, κ u' = κ u := by
  refine revInd (by simp) fun l a ih u hu => ?_
  rw [uniqOn_snoc]
  unfold uniqStep
  have step : ∀ u ∈ l, ∃ u' ∈ (if (uniqOn κ l).any (fun u => decide (κ u = κ a)) = true then uniqOn κ l else uniqOn κ l ++ [a]), κ u' = κ u := fun u hu => by
    obtain ⟨u', h1, h2⟩ := ih u hu
    refine ⟨u', ?_, h2⟩
    split
    · exact h1
    · exact List.mem_append_left _ h1
  rcases List.mem_append.mp hu with hu | hu
  · exact step u hu
  · rw [List.mem_singleton.mp hu]
    split
    · rename_i h
      obtain ⟨u', h1, h2⟩ := List.any_eq_true.mp h
      exact ⟨u', h1, of_decide_eq_true h2⟩
    · exact ⟨a, by simp, rfl⟩
theorem uniqOn_apart {κ : Value → Key} : ∀ l : List Value, (uniqOn κ l).Pairwise fun x y => κ x ≠ κ y := by
  refine revInd List.Pairwise.nil fun l a ih => ?_
  rw [uniqOn_snoc]
  unfold uniqStep
  split
  · exact ih
  · rename_i h
    rw [List.pairwise_append]
    refine ⟨ih, by simp, fun x hx y hy e => h (List.any_eq_true.mpr ⟨x, hx, decide_eq_true ?_⟩)⟩
    rw [List.mem_singleton.mp hy] at e; exact e
theorem uniqOn_nodup {κ : Value → Key} (l : List Value) : (uniqOn κ l).Nodup := (uniqOn_apart l).imp fun h e => h (by rw [e])
theorem uniqOn_sublist {κ : Value → Key} : ∀ l : List Value, (uniqOn κ l).Sublist l := by
  refine revInd (List.Sublist.refl _) fun l a ih => ?_
  rw [uniqOn_snoc]
  unfold uniqStep
  split
  · exact ih.trans (List.sublist_append_left _ _)
  · exact ih.append (List.Sublist.refl _)
theorem uniq_mem {κ : Value → Key} (v : Value) : ∀ vs : List Value, v ∈ uniqOn κ vs ↔ ∃ pre post, vs = pre ++ v :: post ∧ ∀ u ∈ pre, κ u ≠ κ v := by
  refine revInd (by simp [uniqOn]) fun l a ih => ?_
  rw [uniqOn_snoc]
  unfold uniqStep
  have anyIff : (uniqOn κ l).any (fun u => decide (κ u = κ a)) = true ↔ ∃ u ∈ l, κ u = κ a := by
    constructor
    · intro h
      obtain ⟨u, hu, e⟩ := List.any_eq_true.mp h
      exact ⟨u, uniqOn_mem _ _ hu, of_decide_eq_true e⟩
    · rintro ⟨u, hu, e⟩
      obtain ⟨u', h1, h2⟩ := uniqOn_key l u hu
      exact List.any_eq_true.mpr ⟨u', h1, decide_eq_true (h2.trans e)⟩
  have old : (∃ pre post, l = pre ++ v :: post ∧ ∀ u ∈ pre, κ u ≠ κ v) → ∃ pre post, l ++ [a] = pre ++ v :: post ∧ ∀ u ∈ pre, κ u ≠ κ v := by
    rintro ⟨pre, post, rfl, h⟩
    exact ⟨pre, post ++ [a], by simp, h⟩
  have new : ∀ pre post, l ++ [a] = pre ++ v :: post → (∀ u ∈ pre, κ u ≠ κ v) → (∃ pre post, l = pre ++ v :: post ∧ ∀ u ∈ pre, κ u ≠ κ v) ∨ (pre = l ∧ v = a) := by
    intro pre post e h
    rcases List.eq_nil_or_concat post with rfl | ⟨q, b, rfl⟩
    · have := List.append_inj' e rfl
      exact .inr ⟨this.1.symm, by simpa using this.2.symm⟩
    · have e2 : l ++ [a] = (pre ++ v :: q) ++ [b] := by rw [e]; simp
      have := List.append_inj' e2 rfl
      exact .inl ⟨pre, q, this.1, h⟩
  split
  · rename_i hany
    rw [ih]
    constructor
    · exact old
    · rintro ⟨pre, post, e, h⟩
      rcases new pre post e h with r | ⟨rfl, rfl⟩
      · exact r
      · obtain ⟨u, hu, e'⟩ := anyIff.mp hany
        exact absurd e' (h u hu)
  · rename_i hany
    rw [List.mem_append, ih, List.mem_singleton]
    constructor
    · rintro (r | rfl)
      · exact old r
      · exact ⟨l, [], by simp, fun u hu e => hany (anyIff.mpr ⟨u, hu, e⟩)⟩
    · rintro ⟨pre, post, e, h⟩
      rcases new pre post e h with r | ⟨rfl, rfl⟩
      · exact .inl r
      · exact .inr rfl
theorem order_perm {κ : Value → Key} {b : Bool} {vs : List Value} (h : Fine κ vs) : (lawOrder κ b vs).Perm vs := by
  obtain ⟨q, p, _, e⟩ := order_places (b := b) h
  rw [e]
  have := p.map fun i => vs.getD i .none
  rw [← map_range] at this
  exact this
/-- the firsts of the sorted are the firsts, by their places in order -/
theorem firsts_order {κ ν : Value → Key} {R : List Value} (hn : R.Nodup) (h : Fine κ R) (hν : ∀ (i : Nat) (v : Value), R[i]? = some v → ν v = .i i) : lawOrder ν false (uniqOn κ (lawOrder κ false R)) = uniqOn κ R := by
  obtain ⟨q, p, r, e⟩ := order_places (b := false) h
  have getq : ∀ i ∈ q, i < R.length := fun i hi => by simpa using p.mem_iff.mp hi
  have inj : ∀ i j, i < R.length → j < R.length → R.getD i .none = R.getD j .none → i = j := fun i j hi hj e => by
    rw [List.getD_eq_getElem?_getD, List.getD_eq_getElem?_getD, List.getElem?_eq_getElem hi, List.getElem?_eq_getElem hj] at e
    exact (List.getElem?_inj hi hn).mp (by rw [List.getElem?_eq_getElem hi, List.getElem?_eq_getElem hj]; exact congrArg some e)
  have rkeq : ∀ i j, i < R.length → j < R.length → κ (R.getD i .none) = κ (R.getD j .none) → rk κ false (R.getD i .none) = rk κ false (R.getD j .none) := fun i j _ _ e => by unfold rk; rw [e]
  -- who is a first
  have memR : ∀ i, i < R.length → (R.getD i .none ∈ uniqOn κ R ↔ ∀ j, j < i → κ (R.getD j .none) ≠ κ (R.getD i .none)) := fun i hi => by
    rw [uniq_mem]
    constructor
    · rintro ⟨pre, post, e, hp⟩ j hj
      have hl : pre.length < R.length := by rw [e]; simp
      have : R.getD pre.length .none = R.getD i .none := by
        conv => lhs; rw [e]
        simp
      have ei := inj _ _ hl hi this
      refine hp _ ?_
      have : R.getD j .none = pre.getD j .none := by
        rw [e, List.getD_eq_getElem?_getD, List.getElem?_append_left (by omega), List.getD_eq_getElem?_getD]
      rw [this]
      have hj' : j < pre.length := by omega
      simp [hj']
    · intro hfo
      refine ⟨R.take i, R.drop (i + 1), ?_, fun u hu => ?_⟩
      · have : R.getD i .none = R[i] := by simp [hi]
        rw [this, ← List.drop_eq_getElem_cons hi, List.take_append_drop]
      · obtain ⟨j, hj⟩ := List.getElem?_of_mem hu
        have hj2 : j < i := by
          have := (List.getElem?_eq_some_iff.mp hj).1
          rw [List.length_take] at this; omega
        rw [List.getElem?_take_of_lt hj2] at hj
        have : R.getD j .none = u := by rw [List.getD_eq_getElem?_getD, hj]; rfl
        rw [← this]; exact hfo j hj2
  have memL : ∀ i, i < R.length → (R.getD i .none ∈ uniqOn κ (lawOrder κ false R) ↔ ∀ j, j < i → κ (R.getD j .none) ≠ κ (R.getD i .none)) := fun i hi => by
    rw [uniq_mem, e]
    have hiq : i ∈ q := p.mem_iff.mpr (by simpa using hi)
    constructor
    · rintro ⟨pre, post, e, hp⟩ j hj ek
      obtain ⟨q1, q2, eq, e1, e2⟩ := List.map_eq_append_iff.mp e
      obtain ⟨i', q3, eq2, e3, e4⟩ := List.map_eq_cons_iff.mp e2
      have hi' : i' ∈ q := by rw [eq, eq2]; simp
      have ii := inj i' i (getq i' hi') hi e3
      subst ii
      have hjq : j ∈ q := p.mem_iff.mpr (by simp; omega)
      rw [eq, eq2] at hjq r
      rcases List.mem_append.mp hjq with h1 | h1
      · exact hp _ (by rw [← e1]; exact List.mem_map.mpr ⟨j, h1, rfl⟩) ek
      · rcases List.mem_cons.mp h1 with h1 | h1
        · omega
        · have hb := (List.pairwise_append.mp r).2.1
          have hb := (List.pairwise_cons.mp hb).1 j h1
          have := rkeq j i' (by omega) hi ek
          unfold Bef at hb
          dsimp only at hb
          omega
    · intro hfo
      obtain ⟨q1, q2, eq⟩ := List.append_of_mem hiq
      refine ⟨q1.map fun i => R.getD i .none, q2.map fun i => R.getD i .none, by rw [eq]; simp, fun u hu => ?_⟩
      obtain ⟨j, hj, rfl⟩ := List.mem_map.mp hu
      intro ek
      have hjq : j ∈ q := by rw [eq]; exact List.mem_append_left _ hj
      rw [eq] at r
      have hb := (List.pairwise_append.mp r).2.2 j hj i (by simp)
      have := rkeq j i (getq j hjq) hi ek
      unfold Bef at hb
      dsimp only at hb
      exact hfo j (by omega) ek
  have subL : ∀ v ∈ uniqOn κ (lawOrder κ false R), v ∈ R := fun v hv => (lawOrder_mem κ false v R).mp (uniqOn_mem _ _ hv)
  have atR : ∀ v ∈ R, ∃ i, i < R.length ∧ R.getD i .none = v ∧ ν v = .i i := fun v hv => by
    obtain ⟨i, hi⟩ := List.getElem?_of_mem hv
    exact ⟨i, (List.getElem?_eq_some_iff.mp hi).1, by rw [List.getD_eq_getElem?_getD, hi]; rfl, hν i v hi⟩
  have fineν : ∀ vs : List Value, (∀ v ∈ vs, v ∈ R) → Fine ν vs := by
    intro vs sub
    constructor
    · intro v hv l el
      obtain ⟨i, _, _, e⟩ := atR v (sub v hv)
      rw [e] at el; cases el
    · intro v hv u hu
      obtain ⟨i, _, _, e⟩ := atR v (sub v hv)
      obtain ⟨j, _, _, e'⟩ := atR u (sub u hu)
      rw [e, e']; rfl
  have fL := fineν _ subL
  have pm := order_perm (b := false) fL
  have same : ∀ v, v ∈ uniqOn κ (lawOrder κ false R) ↔ v ∈ uniqOn κ R := fun v => by
    constructor
    · intro hv
      obtain ⟨i, hi, e, _⟩ := atR v (subL v hv)
      rw [← e] at hv ⊢
      exact (memR i hi).mpr ((memL i hi).mp hv)
    · intro hv
      obtain ⟨i, hi, e, _⟩ := atR v (uniqOn_mem _ _ hv)
      rw [← e] at hv ⊢
      exact (memL i hi).mpr ((memR i hi).mp hv)
  have perm : (lawOrder ν false (uniqOn κ (lawOrder κ false R))).Perm (uniqOn κ R) := pm.trans ((List.perm_ext_iff_of_nodup (uniqOn_nodup _) (uniqOn_nodup _)).mpr same)
  have up : (uniqOn κ R).Pairwise fun x y => rk ν false x ≤ rk ν false y := by
    refine List.Pairwise.sublist (uniqOn_sublist R) ?_
    rw [List.pairwise_iff_getElem]
    intro i j hi hj hij
    unfold rk
    rw [hν i R[i] (by simp [hi]), hν j R[j] (by simp [hj])]
    simp only [Bool.false_eq_true, if_false, Key.z]
    omega
  refine List.Perm.eq_of_pairwise (fun a b ha hb h1 h2 => ?_) (order_rising fL) up perm
  obtain ⟨i, hi, ei, ni⟩ := atR a (subL a ((lawOrder_mem ν false a _).mp ha))
  obtain ⟨j, hj, ej, nj⟩ := atR b (uniqOn_mem _ _ hb)
  unfold rk at h1 h2
  rw [ni, nj] at h1 h2
  simp only [Bool.false_eq_true, if_false, Key.z] at h1 h2
  have : i = j := by omega
  rw [← ei, ← ej, this]
end Mine
end
section
open PySem PySem.W PySem.W.X PyProof.Rows
namespace Mine
section
variable {prog : Program} {w : World} {A : Around} {s s₀ : Shared} {L : Addr} {m cm : Str → Option Value} {Q : Flow → Shared → Prop}
/-- a lambda of the law -/
theorem g_lam (i : Nat) (p : Spot) {Q : Value → Shared → Prop} (X : (KP w.params).In s₀.heap) (TB : TabsOk s₀.heap) (F : Run (LE w.params L) s₀ m cm s) (hp : p ∈ spots) (ht : p.tab = 402) (hq : p.qual = "law.<locals>.<lambda>")
    (e : ∃ pos, lawLam i = .Lambda (lamPar (lawLam i)) (lamBody (lawLam i)) (lamScope (lawLam i)) pos ∧ pos.line = p.line ∧ pos.col = p.col) (hd : defaultsOf (lamPar (lawLam i)) (LE w.params L) = ([], [])) (hok : clOk (lamScope (lawLam i)).names (LE w.params L).cells = true)
    (uniq : ∀ q ∈ spots, q.tab = p.tab → q.line = p.line → q.col = p.col → q.qual = p.qual)
    (k : ∀ f nm cv ct s', Step0 s s' → IsInner s' f (lamFd i (clOf (lamScope (lawLam i)) (LE w.params L)) nm cv ct) → s.heap.get? f = none → Q (.ref f) s') :
    wpAny (model prog w) A (eval (lawLam i) (LE w.params L)) Q NoE s := by
  obtain ⟨pos, e, hl, hc⟩ := e
  rw [e]
  refine lam_rule hd ?_
  have eq : (LE w.params L).qual ++ ("<lambda>" : Str) = p.qual := by rw [hq]; kernel_rfl
  rw [eq]
  have C : CodeHd s.heap 404 p.tab := by rw [ht]; exact hd_K (F.K X)
  refine mk_fn (F.K X) (F.since.tab TB) hp hl hc uniq C (by kernel_rfl) hok (by kernel_rfl) (by kernel_rfl) rfl fun f cv ct nm s' st hcat ho nf => ?_
  rw [hq] at ho hcat
  exact k f nm cv ct s' st ⟨ho, hcat⟩ nf
/-- a row's place -/
noncomputable def rowN (as : List Addr) : Value → Key := byPlace (as.map Value.ref) (fun i => .i i) (.i 0)
/-- firsts -/
theorem c_s24 {ga : Addr} {tg : List (Addr × Addr)} {as : List Addr} {T : List Value} {ib ex : Bool} (X : (KP w.params).In s₀.heap) (TB : TabsOk s₀.heap) (F : Run (LE w.params L) s₀ m cm s) (R : Rm A 600 900) (m1 : m "groups" = some (.ref ga))
    (hg : IsGroups s ga (told (rowK as T) (groupsL as T ex)) tg) (hr : RowsOf prog w (LE w.params L) s as T) (ht : Things T ib) (hz : T.length ≤ 9)
    (k : ∀ fa s', Run (LE w.params L) s₀ (stv "firsts" (.ref fa) m) cm s' → Step (Hot (LE w.params L)) s s' → IsL s' fa (uniqOn (fun v => (rowK as T v).lowIf ex) (as.map .ref)) → Q .next s') :
    wpAny (model prog w) A (exec (inAt 33 24) (LE w.params L)) Q NoE s := by
  have glen : (groupsL as T ex).length ≤ 9 := by
    refine Nat.le_trans (groupsL_len as T ex) ?_
    rw [hr.1]; exact hz
  have fin := hr.fine ht ex
  refine wpAny_Assign_Name (Call_ (g_glob F X (.ref 395) (cw_fn (spliced_more (comp_pure X F (g_ld F m1 (clause_groups R.handled X F (Step.refl _ _) hg (by rw [told_len]; omega) (fun C => by kernel_rfl) (fun C => by kernel_rfl) (fun C => by kernel_rfl) (by decide) fun I s2 V St Dp cla => ⟨I, _, _, _, V, _, St, fun i y => ∃ kx, (groupsL as T ex)[i]? = some kx ∧ y = kx.2.headD .none, cla, ?_, fun D ys s3 hD hl hG nD h3 => ?_⟩)))))))
  · rintro i C mm m' s3 hi ⟨p, q, ⟨pr, kx, e1, e2, rfl, hk⟩, b1, b2, bk⟩ R3 st3
    obtain ⟨k0, e3, e4⟩ := told_at e2
    obtain ⟨⟨v, v0, vh, vm, _⟩, _, xl⟩ := groupsL_at e3
    obtain ⟨mk, hT, _, hxs⟩ := (hg.hot F.act st3).each i pr kx e1 e2
    exact Subscript_ (g_ld R3 b2 (g_int fun t4 s4 h4 => sub_item (k := 0) (hxs.step0 h4) v0 (by rw [hr.1] at xl; omega) ⟨h4, _, e3, vh.symm⟩ rfl))
  · have F3 := F.step0 h3
    have heads : ys = uniqOn (fun v => (rowK as T v).lowIf ex) (lawOrder (fun v => (rowK as T v).lowIf ex) false (as.map .ref)) := by
      rw [← (group_heads _ (fin.sub fun v hv => (lawOrder_mem _ false v _).mp hv) (order_rising (b := false) fin)).1]
      show ys = (groupsL as T ex).map fun kx => kx.2.headD .none
      apply List.ext_getElem?
      intro i
      by_cases hi : i < ys.length
      · obtain ⟨kx, e, e'⟩ := hG i ys[i] (by simp [hi])
        rw [List.getElem?_eq_getElem hi, e', List.getElem?_map, e]; rfl
      · rw [hl, told_len] at hi
        rw [List.getElem?_eq_none (by rw [hl, told_len]; omega), List.getElem?_eq_none (by simp; omega)]
    subst heads
    have sub : ∀ v ∈ uniqOn (fun v => (rowK as T v).lowIf ex) (lawOrder (fun v => (rowK as T v).lowIf ex) false (as.map .ref)), v ∈ as.map Value.ref := fun v hv => (lawOrder_mem _ false v _).mp (uniqOn_mem _ _ hv)
    refine spliced_more ?_
    refine g_lam 24 ⟨402, 309, 63, "law.<locals>.<lambda>"⟩ X TB F3 (List.mem_of_getElem? (i := 4) rfl) rfl rfl ⟨_, by rfl, by rfl, by rfl⟩ (by kernel_rfl) (by kernel_rfl) (by decide) fun f nm cv ct s4 h4 hf nf => ?_
    have ecl : clOf (lamScope (lawLam 24)) (LE w.params L) = ([] : List (Str × Addr)) := by kernel_rfl
    rw [ecl] at hf
    have F4 := F3.step0 h4
    have st4 := h3.trans h4
    have hr4 := hr.step0 st4
    refine spliced_more (wpAny_Constant_bool (spliced_none ⟨isFn_K (F4.K X), ?_⟩))
    refine c_order (κ := rowN as) R.mono (F4.K X) (hD.step0 h4) (by rw [hl, told_len]; omega) ⟨hf.fn, fun v hv A' s' Q' R' st kk => ?_⟩ (fun v hv u hu => ?_) fun fa s5 h5 hfa nfa => ?_
    · obtain ⟨i, a, rfl, ea, hrow, _, _⟩ := hr4.memT ht (sub v hv)
      refine c_lam_n R' (KP.step0 (F4.K X) st) (hf.step0 st) (hrow.step0 st) fun t s'' st' => kk _ s'' st' ?_
      have : rowN as (.ref a) = .i i := byPlace_at hr4.nodup (by rw [List.getElem?_map, ea]; rfl)
      rw [this]; exact ⟨t, rfl⟩
    · obtain ⟨i, a, rfl, ea, _, _, _⟩ := hr4.memT ht (sub v hv)
      obtain ⟨j, b, rfl, eb, _, _, _⟩ := hr4.memT ht (sub u hu)
      have e1 : rowN as (.ref a) = .i i := byPlace_at hr4.nodup (by rw [List.getElem?_map, ea]; rfl)
      have e2 : rowN as (.ref b) = .i j := byPlace_at hr4.nodup (by rw [List.getElem?_map, eb]; rfl)
      rw [e1, e2]; rfl
    · rw [firsts_order (ν := rowN as) hr.nodup fin (fun i v e => byPlace_at hr.nodup e)] at hfa
      refine g_st (F4.step0 h5) fun s6 F6 h6 => ?_
      exact k fa s6 F6 ((st4.trans h5).up.trans h6) (hfa.hot (F4.act.step0 h5) h6)
/-- the unique ones are the firsts -/
theorem c_s25 {ra fa ta wd d : Addr} {as : List Addr} {T : List Value} {ib ex : Bool} (X : (KP w.params).In s₀.heap) (TB : TabsOk s₀.heap) (F : Run (LE w.params L) s₀ m cm s) (R : Rm A 600 900) (m1 : m "rows" = some (.ref ra)) (m2 : m "firsts" = some (.ref fa)) (m3 : m "world" = some (.ref wd)) (m4 : m "things" = some (.ref ta)) (c2 : cm "exact" = some (.bool ex))
    (hl : IsL s ra (as.map .ref)) (hfa : IsL s fa (uniqOn (fun v => (rowK as T v).lowIf ex) (as.map .ref))) (hT : IsL s ta T) (hr : RowsOf prog w (LE w.params L) s as T) (ht : Things T ib) (hz : T.length ≤ 9) (hw : WorldAt s wd d)
    (k : ∀ s', Run (LE w.params L) s₀ m cm s' → Step (Hot (LE w.params L)) s s' → Q .next s') :
    wpAny (model prog w) A (exec (inAt 33 25) (LE w.params L)) Q NoE s := by
  refine if_no (isTrue_or (wpAny_isTrue_Compare1 (Call_ (g_built F X (.type "list") (cw_type (spliced_more (Call_ (g_glob F X (.ref 279) (cw_fn (spliced_more (g_ld F m3 (spliced_more (g_ld F m1 (spliced_more (g_ldc F (c := cl w.params L "exact") (by kernel_rfl) c2 (spliced_more (g_str fun t2 s2 h2 => spliced_none ⟨isFn_K ((F.step0 h2).K X), ?_⟩)))))))))))))))))
  have F2 := F.step0 h2
  refine c_unique (args := ⟨[.ref wd, .ref ra, .bool ex, .str "k" t2], []⟩) (kk := true) (b := ex) (ib := ib) (κ₀ := rowK as T) R.mono (F2.K X) (F2.since.tab TB) (hw.is.step0 h2) (hl.step0 h2) (by simp [hr.1]; omega) (.inr ⟨t2, rfl, rfl⟩) ((hr.step0 h2).items ht) (hr.int ht) (by kernel_rfl) fun G s3 h3 hG => spliced_none (hG A _ R.mono fun S ys s4 h4 hS hpost nS => ?_)
  subst hpost
  have F4 := F2.step0 h4
  have st4 := h2.trans h4
  refine g_ld F4 m2 (op_ne (d := 0) (lt_c R) hS (hfa.step0 st4) (EqvAll.refl _) (wpAny_truthy_bool ?_))
  simp only [Bool.false_eq_true, if_false]
  refine isTrue_or (wpAny_isTrue_Compare1 (Call_ (g_built F4 X (.type "list") (cw_type (spliced_more (Call_ (g_glob F4 X (.ref 279) (cw_fn (spliced_more (g_ld F4 m3 (spliced_more (g_ld F4 m4 (spliced_more (g_ldc F4 (c := cl w.params L "exact") (by kernel_rfl) c2 (spliced_none ⟨isFn_K (F4.K X), ?_⟩)))))))))))))))
  refine c_unique (args := ⟨[.ref wd, .ref ta, .bool ex], []⟩) (kk := false) (av := .none) (b := ex) (ib := ib) (κ₀ := keyV) R.mono (F4.K X) (F4.since.tab TB) (hw.is.step0 st4) (hT.step0 st4) (by omega) (.inl ⟨rfl, rfl⟩) ht.items ht.int (by kernel_rfl) fun G5 s5 h5 hG5 => spliced_none (hG5 A _ R.mono fun S6 ys6 s6 h6 hS6 hpost6 nS6 => ?_)
  subst hpost6
  have F6 := F4.step0 h6
  have st6 := st4.trans h6
  refine c_ks X F6 R m2 (hfa.step0 st6) (Nat.le_trans (uniqOn_len _) (by simp [hr.1]; omega)) (hr.step0 st6) ht (fun v hv => uniqOn_mem _ _ hv) (by kernel_rfl) (by kernel_rfl) fun D s7 hD nD h7 => ?_
  have hS7 := hS6.step0 h7
  rw [uniq_things hr ht] at hS7
  refine op_ne (d := 0) (lt_c R) hS7 hD (EqvAll.refl _) (wpAny_truthy_bool ?_)
  simp only [Bool.false_eq_true, if_false]
  exact isTrue_or_nil ⟨rfl, k s7 (F6.step0 h7) (st6.trans h7).up⟩
end
end Mine
end
section
open PySem PySem.W PySem.W.X PyProof.Rows
namespace Mine
section
variable {prog : Program} {w : World} {K : Type} [DecidableEq K]
/-- a kind of keys, of ints or of texts -/
structure Kinded (knd : KeyKind prog w K) (conv : K → Key) (ib : Bool) : Prop where
  key : ∀ k v, knd.is k v = true → IsKey v (conv k)
  has : ∀ v κ, IsKey v κ → κ.int = ib → ∃ k, knd.is k v = true ∧ conv k = κ
theorem kinded_int : Kinded (intKind prog w) Key.i true where
  key := fun k v h => let ⟨t, e⟩ := Value.isInt_shape h; ⟨t, e⟩
  has := fun v κ h hi => by
    cases κ with
    | i n => obtain ⟨t, rfl⟩ := h; exact ⟨n, intKind_is prog w n t, rfl⟩
    | s c => cases hi
theorem kinded_str : Kinded (strKind prog w) (fun x => Key.s x.cps.toList) false where
  key := fun k v h => let ⟨t, e⟩ := Value.isStrOf_shape h; ⟨k, t, e, rfl⟩
  has := fun v κ h hi => by
    cases κ with
    | i n => cases hi
    | s c => obtain ⟨x, t, rfl, rfl⟩ := h; exact ⟨x, strKind_is prog w x t, rfl⟩
structure Named (knd : KeyKind prog w K) (conv : K → Key) (T : List Value) (s : Shared) (d : Addr) (kvs : List (K × Value)) (n : Nat) : Prop where
  dict : s.heap.DictOf knd d kvs
  len : kvs.length ≤ n
  keys : ∀ kv ∈ kvs, ∃ u ∈ T, keyV u = conv kv.1
  vals : ∀ kv ∈ kvs, ∃ n t, kv.2 = Value.int n t
theorem Named.step {knd : KeyKind prog w K} {conv T} {X : Addr → Prop} {s s' : Shared} {d kvs n} (h : Named knd conv T s d kvs n) (st : Step X s s') (nx : ¬ X d) : Named knd conv T s' d kvs n := ⟨dictOf_step h.dict st nx, h.len, h.keys, h.vals⟩
end
section
variable {prog : Program} {w : World} {A : Around} {s s₀ : Shared} {L : Addr} {m cm : Str → Option Value} {Q : Flow → Shared → Prop} {K : Type} [DecidableEq K]
/-- named = {} -/
theorem c_s26 {knd : KeyKind prog w K} {conv : K → Key} {T : List Value} (F : Run (LE w.params L) s₀ m cm s)
    (k : ∀ d s', Run (LE w.params L) s₀ m (stv "named" (.ref d) cm) s' → Step (Hot (LE w.params L)) s s' → Named knd conv T s' d [] 0 → ¬ Hot (LE w.params L) d → s.heap.get? d = none → Q .next s') :
    wpAny (model prog w) A (exec (inAt 33 26) (LE w.params L)) Q NoE s := by
  refine wpAny_Assign_Name (wpAny_Dict_empty ?_)
  have st : Step0 s { s with heap := s.heap.push { cls := .type "dict", data := .dict #[] } } := Step0.push _ _
  have nd : s.heap.get? s.heap.objs.size = none := Heap.get?_none_of_le (Nat.le_refl _)
  have hd := Heap.DictOf.new (knd := knd) s.heap
  refine g_stc (F.step0 st) (c := cl w.params L "named") (by kernel_rfl) fun s3 F3 h3 => ?_
  exact k _ s3 F3 (st.up.trans h3) ⟨dictOf_step (s := { s with heap := s.heap.push { cls := .type "dict", data := .dict #[] } }) hd h3 (F.hotAt nd), Nat.le_refl _, by simp, by simp⟩ (F.hotAt nd) nd
/-- for row in rows: named[row['k']] = row['n'] -/
theorem c_s27 {knd : KeyKind prog w K} {conv : K → Key} {ib : Bool} (KD : Kinded knd conv ib) {ra d : Addr} {as : List Addr} {T : List Value} (X : (KP w.params).In s₀.heap) (F : Run (LE w.params L) s₀ m cm s) (R : Rm A 600 900) (m1 : m "rows" = some (.ref ra)) (c1 : cm "named" = some (.ref d))
    (hl : IsL s ra (as.map .ref)) (hr : RowsOf prog w (LE w.params L) s as T) (ht : Things T ib) (hz : T.length ≤ 9) (hN : Named knd conv T s d [] 0) (cd : ¬ Hot (LE w.params L) d) (dn : s₀.heap.get? d = none) (had : ∀ a ∈ as, a ≠ d) (hrd : ra ≠ d)
    (k : ∀ m' kvs s', (∀ y : Str, y ≠ "row" → m' y = m y) → Run (LE w.params L) s₀ m' cm s' → Step (fun b => Hot (LE w.params L) b ∨ b = d) s s' → Named knd conv T s' d kvs 9 → Q .next s') :
    wpAny (model prog w) A (exec (inAt 33 27) (LE w.params L)) Q NoE s := by
  refine for_ruleW (g_ld F m1 (iter_list hl.is (fun I s₂ hit h2 nI hI4 => ?_) (size_ge (F.K X))))
  have cI : ¬ Hot (LE w.params L) I := F.hotAt nI
  have dI : d ≠ I := ne_new (dictOf_some hN.dict) nI
  have rI : ra ≠ I := ne_new hl.some nI
  have I0 : s₀.heap.get? I = none := F.newAt nI
  refine ⟨I, _, _, _, _, _, fun i s' => ∃ m' kvs, Run (LE w.params L) s₀ m' cm s' ∧ (∀ y : Str, y ≠ "row" → m' y = m y) ∧ Step (fun b => (Hot (LE w.params L) b ∨ b = d) ∨ b = I) s s' ∧ Named knd conv T s' d kvs i, fun b => b = d, rfl, src_list R.handled cI (fun q => F.act.notList q hl) rI hI4 (by kernel_rfl) (by kernel_rfl), ?_, ⟨hit, (hl.step0 h2).is⟩, ⟨m, [], F.step0 h2, fun _ _ => rfl, h2.up, hN.step h2 id⟩, ?_, ?_⟩
  · rintro b rfl (e | e)
    · exact dI e
    · exact hrd e.symm
  · rintro i s3 hi ⟨m', kvs, F3, hm', st3, N3⟩
    refine ⟨m', cm, F3.act, ?_⟩
    rintro m2 s4 ⟨v, hv, rfl⟩ F4 h4 _
    have hv' : (as.map Value.ref)[i]? = some v := by simpa using hv
    obtain ⟨j, a, rfl, ea, hrow, hth, ek⟩ := hr.memT ht (List.mem_of_getElem? hv')
    have aI : a ≠ I := ne_new hrow.some nI
    have ca := (hr.2.2 j a ea).1
    have hrow4 := (hrow.step st3 (by
      rintro ((q | q) | q)
      · exact ca q
      · exact had a (List.mem_of_getElem? ea) q
      · exact aI q)).step h4 (by
      rintro (q | q)
      · exact ca q
      · exact aI q)
    have N4 := N3.step h4 (by
      rintro (q | q)
      · exact cd q
      · exact dI q)
    have hi9 : i < 9 := by simp [hr.1] at hi; omega
    have R4 : Run (LE w.params L) s₀ _ cm s4 := ⟨F4, (Step.trans F3.since.up h4).new (fun b hb _ => hb.elim (F3.new b) fun e => e ▸ I0), F3.new⟩
    generalize hm2 : (fun y : Str => if y = "row" then some (Value.ref a) else m' y) = m2 at R4
    have row4 : m2 "row" = some (.ref a) := by rw [← hm2]; exact putN
    have keep4 : ∀ y : Str, y ≠ "row" → m2 y = m y := fun y hy => by rw [← hm2]; show (if y = "row" then _ else m' y) = _; rw [if_neg hy]; exact hm' y hy
    refine wpAny_execs_cons (wpAny_Assign_Subscript (Subscript_ (g_ld R4 row4 (g_str fun t5 s5 h5 => sub_n (hrow4.step0 h5) (fun tn s6 h6 => ?_) rfl))))
    have st6 := h5.trans h6
    refine g_ldc (R4.step0 st6) (c := cl w.params L "named") (by kernel_rfl) c1 (Subscript_ (g_ld (R4.step0 st6) row4 (g_str fun t7 s7 h7 => sub_k (hrow4.step0 (st6.trans h7)) (fun s8 h8 => ?_) rfl)))
    have st8 := st6.trans (h7.trans h8)
    have N8 := N4.step st8 id
    have memT : thingOf as T (.ref a) ∈ T := by
      have : thingOf as T (.ref a) ∈ (as.map Value.ref).map (thingOf as T) := List.mem_map.mpr ⟨_, List.mem_of_getElem? hv', rfl⟩
      rwa [things_map hr] at this
    obtain ⟨kk, hk1, hk2⟩ := KD.has _ _ hth.1 (by rw [ek]; exact ht.int _ memT)
    refine wpAny_setItem_pairs hk1 N8.dict (fun h' hm8 hs' => ?_) (Nat.le_trans N8.len (Nat.le_trans (Nat.le_of_lt hi9) (by decide)))
    have pl : ∀ o, s8.heap.get? d = some o → codeish o = false := fun o eo => by
      obtain ⟨o', es, ep, e1, e2, e3, _⟩ := N8.dict
      rw [eo] at e1; cases e1
      exact plain_dict e3
    have s89 : Step (fun b => b = d) s8 { s8 with heap := h', toks := s8.toks + 1 } := Step.of_same rfl hs' pl
    have R9 := (R4.step0 st8).stepX s89 (fun b e => e ▸ cd) (fun b e => e ▸ dn)
    refine wpAny_execs_nil ⟨⟨m2, _, R9, keep4, ?_, hm8, ?_, ?_, ?_⟩, ?_⟩
    · exact (st3.trans (h4.mono fun b e => e.elim (fun e => .inl (.inl e)) .inr)).trans (st8.up.trans (s89.mono fun b e => .inl (.inr e)))
    · have := N8.len
      unfold stored
      split
      · simp; omega
      · simp; omega
    · intro kv hkv
      unfold stored at hkv
      have newk : ∃ u ∈ T, keyV u = conv kk := ⟨thingOf as T (.ref a), memT, by rw [hk2, ek]⟩
      split at hkv
      · obtain ⟨p, hp, rfl⟩ := List.mem_map.mp hkv
        split
        · exact N8.keys p hp
        · exact N8.keys p hp
      · rcases List.mem_append.mp hkv with hkv | hkv
        · exact N8.keys kv hkv
        · rw [List.mem_singleton.mp hkv]; exact newk
    · intro kv hkv
      unfold stored at hkv
      split at hkv
      · obtain ⟨p, hp, rfl⟩ := List.mem_map.mp hkv
        split
        · exact ⟨_, _, rfl⟩
        · exact N8.vals p hp
      · rcases List.mem_append.mp hkv with hkv | hkv
        · exact N8.vals kv hkv
        · rw [List.mem_singleton.mp hkv]; exact ⟨_, _, rfl⟩
    · exact st8.up.trans (s89.mono fun b e => .inr e)
  · rintro s3 s4 ⟨m', kvs, F3, hm', st3, N3⟩ h4
    have F4 := F3.stepX h4 (fun b e => e ▸ cI) (fun b e => e ▸ I0)
    refine k m' kvs s4 hm' F4 ((st3.trans (h4.mono fun b e => .inr e)).new fun b hb nb => hb.elim (fun e => absurd e nb) fun e => e ▸ nI) ?_
    have N4 := N3.step h4 (fun e => dI e)
    exact ⟨N4.dict, Nat.le_trans N4.len (by simp [hr.1]; exact hz), N4.keys, N4.vals⟩
end
end Mine
end
section
open PySem PySem.W PySem.W.X PyProof.Rows
namespace Mine
section
variable {prog : Program} {w : World} {A : Around} {s s₀ : Shared} {L : Addr} {m cm : Str → Option Value} {Q : Flow → Shared → Prop} {K : Type} [DecidableEq K] {knd : KeyKind prog w K}
theorem IsPairs.hot {env : Env} {s s' : Shared} {as kvs} (h : IsPairs knd s as kvs) (hl : as.length = kvs.length) (F : Act env m cm s) (st : Step (Hot env) s s') : IsPairs knd s' as kvs := h.step st fun a ha => by
  obtain ⟨j, e⟩ := List.getElem?_of_mem ha
  have hj : j < kvs.length := by rw [← hl]; exact (List.getElem?_eq_some_iff.mp e).1
  obtain ⟨key, _, t⟩ := h.2.2 j a kvs[j].1 kvs[j].2 e (by simp [hj])
  exact fun q => F.notTup q t
/-- pairs = [(thing, named[thing]) for thing in named] -/
theorem c_s28 {conv : K → Key} {ib : Bool} (KD : Kinded knd conv ib) {d : Addr} {kvs : List (K × Value)} {T : List Value} (X : (KP w.params).In s₀.heap) (F : Run (LE w.params L) s₀ m cm s) (R : Rm A 600 900) (c1 : cm "named" = some (.ref d)) (hN : Named knd conv T s d kvs 9) (cd : ¬ Hot (LE w.params L) d) (hdS : (d == sysModules) = false)
    (k : ∀ pa as s', Run (LE w.params L) s₀ (stv "pairs" (.ref pa) m) cm s' → Step (Hot (LE w.params L)) s s' → IsL s' pa (as.map .ref) → IsPairs knd s' as kvs → Q .next s') :
    wpAny (model prog w) A (exec (inAt 33 28) (LE w.params L)) Q NoE s := by
  obtain ⟨o, es, ep, hat⟩ := id hN.dict
  have hat : s.heap.DictAt knd d kvs ep := ⟨o, es, hat⟩
  have nod : (kvs.map (·.1)).Nodup := (let ⟨_, _, _, _, _, _, _, n⟩ := hat; n)
  refine comp_newA X F (g_ldc F (c := cl w.params L "named") (by kernel_rfl) c1 (wpAny_pyIter_dict hdS hat ?_))
  have st2 : Step0 s { s with heap := s.heap.push { cls := .type "dict_keyiterator", data := .fields #[.ref d, .int 0 0, .int kvs.length 0, .int ep 0] } } := Step0.push _ _
  have nI : s.heap.get? s.heap.objs.size = none := Heap.get?_none_of_le (Nat.le_refl _)
  have hit : (s.heap.push { cls := .type "dict_keyiterator", data := .fields #[.ref d, .int 0 0, .int kvs.length 0, .int ep 0] }).IsKeyIter s.heap.objs.size d 0 kvs.length ep := ⟨_, Heap.get?_push_size _ rfl, rfl, rfl⟩
  have hat2 : (s.heap.push { cls := .type "dict_keyiterator", data := .fields #[.ref d, .int 0 0, .int kvs.length 0, .int ep 0] }).DictAt knd d kvs ep := hat.push _
  have s4 := size_ge (F.K X)
  have dI : d ≠ s.heap.objs.size := ne_new (dictOf_some hN.dict) nI
  generalize hg : ({ s with heap := s.heap.push { cls := .type "dict_keyiterator", data := .fields #[.ref d, .int 0 0, .int kvs.length 0, .int ep 0] } } : Shared) = s₂ at st2
  have eh : s.heap.push { cls := .type "dict_keyiterator", data := .fields #[.ref d, .int 0 0, .int kvs.length 0, .int ep 0] } = s₂.heap := by rw [← hg]
  rw [eh] at hit hat2
  generalize s.heap.objs.size = I at nI hit s4 dI ⊢
  refine ⟨I, _, _, kvs.length, _, _, _, fun i a s => ∃ key k x, kvs[i]? = some (k, x) ∧ knd.is k key = true ∧ IsT s a [key, x], ⟨rfl, st2, ?_, itr_of_walks (Walks.dictKeys R.handled I d dI kvs ep) (fun i h st b hb => ?_) (fun b hb => ?_), ⟨hit, hat2⟩, Nat.le_trans hN.len (by decide), ?_, fun i C => bnd_name (B := fun v => ∃ k x, kvs[i]? = some (k, x) ∧ knd.is k v = true) (fun v s hv => hv) (by kernel_rfl) (by kernel_rfl)⟩, ?_, ?_, fun D as s' hD hl hn hG nD R' h' => ?_⟩
  · intro b hb
    rw [List.mem_singleton.mp hb]; exact nI
  · simp only [List.mem_cons, List.not_mem_nil, or_false] at hb
    rcases hb with rfl | rfl
    · obtain ⟨o, e, c, _⟩ := st.1
      exact Real.of e c
    · obtain ⟨o, es, e, c, _⟩ := st.2
      exact Real.of e c.1
  · rw [List.mem_singleton.mp hb]; exact s4
  · intro b hb
    simp only [List.mem_cons, List.not_mem_nil, or_false] at hb
    rcases hb with rfl | rfl
    · exact F.hotAt nI
    · exact cd
  · rintro i a X s s' ⟨key, k, x, e1, e2, e3⟩ st n
    exact ⟨key, k, x, e1, e2, e3.step st n⟩
  · rintro i C mm m' s3 hi ⟨v, ⟨kk, x, e1, e2⟩, rfl⟩ R3 st3
    have hd3 := dictOf_step hN.dict st3 cd
    have hs : ∀ pos : Pos, subscripted (.Name "thing" pos) false (.ref d) v = operate [v, .ref d] (getItem (.ref d) v) := fun pos => by
      have := KD.key _ _ e2
      generalize conv kk = κ at this
      cases κ with
      | i n => obtain ⟨t, rfl⟩ := this; rfl
      | s c => obtain ⟨x, t, rfl, _⟩ := this; rfl
    refine Tuple_ (spliced_more (g_ld R3 putN (spliced_more (Subscript_ (g_ldc R3 (c := cl w.params L "named") (by kernel_rfl) c1 (g_ld R3 putN (sub_dict hd3 e2 (valueAt_of_get nod e1) (fun s4 h4 => spliced_none (op_newT (by simp) fun t s5 h5 hT nT => ⟨h4.trans h5, t, rfl, h4.notThere nT, hT.some, v, kk, x, e1, e2, hT⟩)) (hs _))))))))
  · refine k D as s' R' h' hD ⟨hl, hn, fun j a kk x ea ek => ?_⟩
    obtain ⟨_, key, k', x', e1, e2, e3⟩ := hG j a ea
    rw [ek] at e1; cases e1
    exact ⟨key, e2, e3⟩
/-- two sorted rows of pairs -/
theorem eqv_pairs {q : List Nat} {as bs : List Addr} {kvs : List (K × Value)} {conv : K → Key} {ib : Bool} (KD : Kinded knd conv ib) (h1 : IsPairs knd s as kvs) (h2 : IsPairs knd s bs kvs) (hq : ∀ i ∈ q, i < kvs.length) : EqvAll s 1 (q.map fun j => Value.ref (as.getD j 0)) (q.map fun j => Value.ref (bs.getD j 0)) := by
  refine ⟨by simp, fun i x y e1 e2 => ?_⟩
  rw [List.getElem?_map] at e1 e2
  cases e : q[i]? with
  | none => rw [e] at e1; cases e1
  | some j =>
    rw [e] at e1 e2
    cases e1; cases e2
    have hj := hq j (List.mem_of_getElem? e)
    have ha : as[j]? = some (as.getD j 0) := by simp [List.getD_eq_getElem?_getD, h1.1, hj]
    have hb : bs[j]? = some (bs.getD j 0) := by simp [List.getD_eq_getElem?_getD, h2.1, hj]
    obtain ⟨k1, a1, t1⟩ := h1.2.2 j _ kvs[j].1 kvs[j].2 ha (by simp [hj])
    obtain ⟨k2, a2, t2⟩ := h2.2.2 j _ kvs[j].1 kvs[j].2 hb (by simp [hj])
    refine Eqv.tuple t1 t2 ⟨rfl, fun n x y e1 e2 => ?_⟩
    match n with
    | 0 =>
      cases e1; cases e2
      exact Eqv.key (KD.key _ _ a1) (KD.key _ _ a2)
    | 1 =>
      cases e1; cases e2
      exact Eqv.same _
    | n + 2 => simp at e1
/-- the law's order of pairs -/
theorem c_lawpairs {pa f : Addr} {as : List Addr} {kvs : List (K × Value)} {κ : Nat → Key} {b ib : Bool} {Q : Value → Shared → Prop} (R : Rm A 600 900) (X : (KP w.params).In s.heap) (hl : IsL s pa (as.map .ref)) (hp : IsPairs knd s as kvs) (hz : kvs.length ≤ 9) (hi : ∀ j, j < kvs.length → (κ j).int = ib) (hfn : IsFn s f)
    (hf : ∀ (j : Nat) (a : Addr) (key x : Value) (A' : Around) (s' : Shared) (Q' : Value → Shared → Prop), j < kvs.length → (∃ k, kvs[j]? = some (k, x) ∧ knd.is k key = true) → IsT s a [key, x] → Rm A' 700 1000 → Step0 s s' → (∀ r s'', Step0 s' s'' → IsKey r (κ j) → Q' r s'') → wpAny (model prog w) A' (call (.ref f) [.ref a]) Q' NoE s')
    (k : ∀ r s', Step0 s s' → IsL s' r ((placeOrder κ b kvs.length).map fun j => .ref (as.getD j 0)) → Q (.ref r) s') :
    wpAny (model prog w) A (call (.ref 395) [.ref pa, .ref f, .bool b]) Q NoE s := by
  have hn : (as.map Value.ref).Nodup := List.pairwise_map.mpr (hp.2.1.imp fun e e' => e (by injection e'))
  have at_ : ∀ v ∈ as.map Value.ref, ∃ (j : Nat) (a : Addr), v = .ref a ∧ as[j]? = some a ∧ j < kvs.length ∧ byPlace (as.map Value.ref) κ (.i 0) v = κ j := fun v hv => by
    obtain ⟨j, e⟩ := List.getElem?_of_mem hv
    obtain ⟨a, rfl, ea⟩ := ref_at e
    exact ⟨j, a, rfl, ea, by rw [← hp.1]; exact (List.getElem?_eq_some_iff.mp ea).1, byPlace_at hn e⟩
  refine c_order (κ := byPlace (as.map Value.ref) κ (.i 0)) R X hl (by simp [hp.1]; omega) ⟨hfn, fun v hv A' s' Q' R' st kk => ?_⟩ (fun v hv u hu => ?_) fun r s' st hr _ => ?_
  · obtain ⟨j, a, rfl, ea, hj, ek⟩ := at_ v hv
    obtain ⟨key, k1, t1⟩ := hp.2.2 j a kvs[j].1 kvs[j].2 ea (by simp [hj])
    refine hf j a key kvs[j].2 A' s' Q' hj ⟨kvs[j].1, by simp [hj], k1⟩ t1 R' st fun r s'' st' hk => kk r s'' st' ?_
    rw [ek]; exact hk
  · obtain ⟨j, a, rfl, _, hj, ek⟩ := at_ v hv
    obtain ⟨j', a', rfl, _, hj', ek'⟩ := at_ u hu
    rw [ek, ek']
    exact same_of_int (by rw [hi j hj, hi j' hj'])
  · refine k r s' st ?_
    have e2 : as.map Value.ref = (List.range kvs.length).map fun j => .ref (as.getD j 0) := by
      apply List.ext_getElem (by simp [hp.1])
      intro i h1 h2
      have : i < as.length := by simpa using h1
      simp [this]
    rw [e2, lawOrder_places (g := κ)] at hr
    · exact hr
    · intro i hi
      rw [← e2]
      exact byPlace_at hn (by rw [e2]; simp [hi])
end
end Mine
end
section
open PySem PySem.W PySem.W.X PyProof.Rows
namespace Mine
def keyAt {K : Type} (conv : K → Key) (kvs : List (K × Value)) (j : Nat) : Key := match kvs[j]? with
  | some kv => conv kv.1
  | none => .i 0
def valAt {K : Type} (kvs : List (K × Value)) (j : Nat) : Key := match kvs[j]? with
  | some kv => keyV kv.2
  | none => .i 0
section
variable {prog : Program} {w : World} {A : Around} {s s₀ : Shared} {L : Addr} {m cm : Str → Option Value} {Q : Flow → Shared → Prop} {K : Type} [DecidableEq K] {knd : KeyKind prog w K}
theorem Named.thing {conv : K → Key} {ib : Bool} (KD : Kinded knd conv ib) {T : List Value} (ht : Things T ib) {s : Shared} {d : Addr} {kvs : List (K × Value)} {n : Nat} (hN : Named knd conv T s d kvs n) {j : Nat} {k : K} {x key : Value} (e : kvs[j]? = some (k, x)) (hk : knd.is k key = true) : IsThing key (keyAt conv kvs j) := by
  obtain ⟨u, hu, eu⟩ := hN.keys _ (List.mem_of_getElem? e)
  have : keyAt conv kvs j = conv k := by unfold keyAt; rw [e]
  rw [this]
  refine ⟨KD.key _ _ hk, fun c hc => ?_⟩
  exact (ht.thing u hu).2 c (eu.trans hc)
theorem Named.int {conv : K → Key} {ib : Bool} {T : List Value} (ht : Things T ib) {s : Shared} {d : Addr} {kvs : List (K × Value)} {n : Nat} (hN : Named knd conv T s d kvs n) (j : Nat) (h : j < kvs.length) : (keyAt conv kvs j).int = ib := by
  have e : kvs[j]? = some kvs[j] := by simp [h]
  obtain ⟨u, hu, eu⟩ := hN.keys _ (List.mem_of_getElem? e)
  have : keyAt conv kvs j = conv kvs[j].1 := by unfold keyAt; rw [e]
  rw [this, ← eu]
  exact ht.int u hu
theorem Named.val {conv : K → Key} {T : List Value} {s : Shared} {d : Addr} {kvs : List (K × Value)} {n : Nat} (hN : Named knd conv T s d kvs n) {j : Nat} {k : K} {x : Value} (e : kvs[j]? = some (k, x)) : ∃ i t, x = .int i t ∧ valAt kvs j = .i i := by
  obtain ⟨i, t, ex⟩ := hN.vals _ (List.mem_of_getElem? e)
  have ex : x = .int i t := ex
  exact ⟨i, t, ex, by unfold valAt; rw [e]; show keyV x = _; rw [ex]; rfl⟩
theorem c_s29 {conv : K → Key} {ib back ex : Bool} (KD : Kinded knd conv ib) {d pa : Addr} {kvs : List (K × Value)} {as : List Addr} {T : List Value} (X : (KP w.params).In s₀.heap) (TB : TabsOk s₀.heap) (F : Run (LE w.params L) s₀ m cm s) (R : Rm A 600 900) (m1 : m "pairs" = some (.ref pa)) (m2 : m "back" = some (.bool back)) (c1 : cm "named" = some (.ref d)) (c2 : cm "exact" = some (.bool ex))
    (hN : Named knd conv T s d kvs 9) (hdS : (d == sysModules) = false) (ht : Things T ib) (hl : IsL s pa (as.map .ref)) (hp : IsPairs knd s as kvs)
    (k : ∀ s', Run (LE w.params L) s₀ m cm s' → Step (Hot (LE w.params L)) s s' → Q .next s') :
    wpAny (model prog w) A (exec (inAt 33 29) (LE w.params L)) Q NoE s := by
  have hz := hN.len
  refine if_no (wpAny_isTrue_Compare1 (Call_ (g_glob F X (.ref 263) (cw_fn (spliced_more (g_ldc F (c := cl w.params L "named") (by kernel_rfl) c1 (spliced_more (g_ldc F (c := cl w.params L "exact") (by kernel_rfl) c2 (spliced_more (g_str fun t2 s2 h2 => spliced_more (g_ld (F.step0 h2) m2 (spliced_none ⟨isFn_K ((F.step0 h2).K X), ?_⟩))))))))))))
  have F2 := F.step0 h2
  refine c_dictsort (knd := knd) (args := ⟨[.ref d, .bool ex, .str "key" t2, .bool back], []⟩) (p := 0) (by_ := .str "key" t2) (rev := back) (b := ex) (ib := ib) (κs := keyAt conv kvs) R.mono (F2.K X) (F2.since.tab TB) (dictOf_step hN.dict h2 id) hdS (by omega) ⟨t2, .inl ⟨rfl, rfl⟩⟩ (fun j k x key y e hk hy => by cases hy; exact hN.thing KD ht e hk) (hN.int ht) (by kernel_rfl) fun r1 as1 s3 h3 hr1 hp1 nr1 => ?_
  have F3 := F2.step0 h3
  have st3 := h2.trans h3
  refine Call_ (g_glob F3 X (.ref 395) (cw_fn (spliced_more (g_ld F3 m1 (spliced_more ?_)))))
  refine g_lam 29 ⟨402, 316, 67, "law.<locals>.<lambda>"⟩ X TB F3 (List.mem_of_getElem? (i := 5) rfl) rfl rfl ⟨_, by rfl, by rfl, by rfl⟩ (by kernel_rfl) (by kernel_rfl) (by decide) fun f nm cv ct s4 h4 hf nf => ?_
  have ecl : clOf (lamScope (lawLam 29)) (LE w.params L) = [(("exact" : Str), cl w.params L "exact")] := by kernel_rfl
  rw [ecl] at hf
  have F4 := F3.step0 h4
  have st4 := st3.trans h4
  refine spliced_more (g_ld F4 m2 (spliced_none ⟨isFn_K (F4.K X), ?_⟩))
  have hc4 : s4.heap.IsCell (cl w.params L "exact") (some (.bool ex)) := cell_at "exact" F4 c2
  refine c_lawpairs (knd := knd) (κ := fun j => (keyAt conv kvs j).lowIf ex) (ib := ib) R (F4.K X) (hl.step0 st4) (hp.step0 st4) hz (fun j hj => by rw [Key.low_int]; exact hN.int ht j hj) hf.fn (fun j a key x A' s' Q' hj hk t1 R' st kk => ?_) fun r2 s5 h5 hr2 => ?_
  · obtain ⟨k1, e1, e2⟩ := hk
    exact c_lam_0 R' (KP.step0 (F4.K X) st) (hf.step0 st) (isCell_step0 hc4 st) (t1.step0 st) (hN.thing KD ht e1 e2) kk
  · have hp5 := hp.step0 (st4.trans h5)
    refine op_ne (d := 1) (lt_c R) ((hr1.step0 h4).step0 h5) hr2 (eqv_pairs KD ((hp1.step0 h4).step0 h5) hp5 fun i hi => placeOrder_lt hi) (wpAny_truthy_bool ?_)
    exact ⟨rfl, k s5 (F4.step0 h5) (st4.trans h5).up⟩
theorem c_s30 {conv : K → Key} {ib back : Bool} (KD : Kinded knd conv ib) {d pa : Addr} {kvs : List (K × Value)} {as : List Addr} {T : List Value} (X : (KP w.params).In s₀.heap) (TB : TabsOk s₀.heap) (F : Run (LE w.params L) s₀ m cm s) (R : Rm A 600 900) (m1 : m "pairs" = some (.ref pa)) (m2 : m "back" = some (.bool back)) (c1 : cm "named" = some (.ref d))
    (hN : Named knd conv T s d kvs 9) (hdS : (d == sysModules) = false) (hl : IsL s pa (as.map .ref)) (hp : IsPairs knd s as kvs)
    (k : ∀ s', Run (LE w.params L) s₀ m cm s' → Step (Hot (LE w.params L)) s s' → Q .next s') :
    wpAny (model prog w) A (exec (inAt 33 30) (LE w.params L)) Q NoE s := by
  have hz := hN.len
  have low : ∀ j, j < kvs.length → (valAt kvs j).lowIf false = valAt kvs j ∧ (valAt kvs j).int = true := fun j hj => by
    obtain ⟨i, t, _, e⟩ := hN.val (j := j) (k := kvs[j].1) (x := kvs[j].2) (by simp [hj])
    rw [e]; exact ⟨rfl, rfl⟩
  refine if_no (wpAny_isTrue_Compare1 (CallK_ (g_glob F X (.ref 263) (cw_fnK ["by", "reverse"] (spliced_more (g_ldc F (c := cl w.params L "named") (by kernel_rfl) c1 (spliced_none (kw_cons (g_str fun t2 s2 h2 => kw_cons (g_ld (F.step0 h2) m2 (kw_nil ⟨isFn_K ((F.step0 h2).K X), ?_⟩)))))))))))
  have F2 := F.step0 h2
  refine c_dictsort (knd := knd) (args := ⟨[.ref d], [("by", .str "value" t2), ("reverse", .bool back)]⟩) (p := 1) (by_ := .str "value" t2) (rev := back) (b := false) (ib := true) (κs := valAt kvs) R.mono (F2.K X) (F2.since.tab TB) (dictOf_step hN.dict h2 id) hdS (by omega) ⟨t2, .inr ⟨rfl, rfl⟩⟩ (fun j k x key y e hk hy => by
    cases hy
    obtain ⟨i, t, ex, ev⟩ := hN.val e
    rw [ev, ex]
    exact ⟨⟨t, rfl⟩, fun c hc => by cases hc⟩) (fun j hj => (low j hj).2) (by kernel_rfl) fun r1 as1 s3 h3 hr1 hp1 nr1 => ?_
  have F3 := F2.step0 h3
  have st3 := h2.trans h3
  refine Call_ (g_glob F3 X (.ref 395) (cw_fn (spliced_more (g_ld F3 m1 (spliced_more ?_)))))
  refine g_lam 30 ⟨402, 318, 73, "law.<locals>.<lambda>"⟩ X TB F3 (List.mem_of_getElem? (i := 6) rfl) rfl rfl ⟨_, by rfl, by rfl, by rfl⟩ (by kernel_rfl) (by kernel_rfl) (by decide) fun f nm cv ct s4 h4 hf nf => ?_
  have ecl : clOf (lamScope (lawLam 30)) (LE w.params L) = ([] : List (Str × Addr)) := by kernel_rfl
  rw [ecl] at hf
  have F4 := F3.step0 h4
  have st4 := st3.trans h4
  refine spliced_more (g_ld F4 m2 (spliced_none ⟨isFn_K (F4.K X), ?_⟩))
  refine c_lawpairs (knd := knd) (κ := valAt kvs) (ib := true) R (F4.K X) (hl.step0 st4) (hp.step0 st4) hz (fun j hj => (low j hj).2) hf.fn (fun j a key x A' s' Q' hj hk t1 R' st kk => ?_) fun r2 s5 h5 hr2 => ?_
  · obtain ⟨k1, e1, e2⟩ := hk
    obtain ⟨i, t, ex, ev⟩ := hN.val e1
    refine c_lam_1 R' (KP.step0 (F4.K X) st) (hf.step0 st) (t1.step0 st) fun s'' st' => kk _ s'' st' ?_
    rw [ev, ex]; exact ⟨t, rfl⟩
  · have hp5 := hp.step0 (st4.trans h5)
    have eo : placeOrder (fun j => (valAt kvs j).lowIf false) back kvs.length = placeOrder (valAt kvs) back kvs.length := by
      unfold placeOrder
      refine (insAll_congr _ fun r hr d hd => ?_).1
      dsimp only
      rw [(low r (by simpa using hr)).1, (low d (by simpa using hd)).1]
    rw [eo] at hr1
    refine op_ne (d := 1) (lt_c R) ((hr1.step0 h4).step0 h5) hr2 (eqv_pairs KD ((hp1.step0 h4).step0 h5) hp5 fun i hi => placeOrder_lt hi) (wpAny_truthy_bool ?_)
    exact ⟨rfl, k s5 (F4.step0 h5) (st4.trans h5).up⟩
end
end Mine
end
section
open PySem PySem.W PySem.W.X PyProof.Rows
namespace Mine
/-! texts -/
theorem ind1_twice (a b : List Nat) (blank : Bool) (x : List Nat) : ind1 b blank (ind1 a blank x) = ind1 (b ++ a) blank x := by
  unfold ind1
  cases blank
  · simp only [Bool.false_eq_true, if_false]
    cases x with
    | nil => rfl
    | cons y r =>
      simp only [List.isEmpty_cons, Bool.false_eq_true, if_false]
      have : (a ++ y :: r).isEmpty = false := by cases a <;> rfl
      rw [this]
      simp
  · simp
theorem indL_twice (a b : List Nat) (first blank : Bool) : ∀ ls, indL b first blank (indL a first blank ls) = indL (b ++ a) first blank ls
  | [] => rfl
  | l :: r => by
    unfold indL
    simp only [List.map_map]
    congr 1
    · cases first <;> simp
    · apply List.map_congr_left
      intro x _
      exact ind1_twice a b blank x
theorem indL_ne (a : List Nat) (first blank : Bool) {ls : List (List Nat)} (h : ls ≠ []) : indL a first blank ls ≠ [] := by
  cases ls with
  | nil => exact absurd rfl h
  | cons l r => exact List.cons_ne_nil _ _
theorem indL_len (a : List Nat) (first blank : Bool) (ls : List (List Nat)) : (indL a first blank ls).length = ls.length := by
  cases ls with
  | nil => rfl
  | cons l r => simp [indL]
theorem indL_mem {a : List Nat} {first blank : Bool} {ls : List (List Nat)} {x : List Nat} (h : x ∈ indL a first blank ls) : ∃ l ∈ ls, x = l ∨ x = a ++ l := by
  cases ls with
  | nil => cases h
  | cons l r =>
    unfold indL at h
    rcases List.mem_cons.mp h with rfl | h
    · refine ⟨l, by simp, ?_⟩
      cases first
      · exact .inl rfl
      · exact .inr rfl
    · obtain ⟨y, hy, rfl⟩ := List.mem_map.mp h
      refine ⟨y, .tail _ hy, ?_⟩
      unfold ind1
      split
      · exact .inr rfl
      · split
        · exact .inl rfl
        · exact .inr rfl
theorem noBreak_spaces (n : Nat) : noBreak (List.replicate n 32) := fun c hc => by rw [List.eq_of_mem_replicate hc]; kernel_rfl
theorem noBreak_app {a b : List Nat} (ha : noBreak a) (hb : noBreak b) : noBreak (a ++ b) := fun c hc => (List.mem_append.mp hc).elim (ha c) (hb c)
/-- lines that do_indent can take -/
structure Lines (ls : List (List Nat)) (B : Nat) : Prop where
  ne : ls ≠ []
  len : ls.length ≤ 5
  safe : ∀ l ∈ ls, noBreak l
  short : ∀ l ∈ ls, l.length ≤ B
theorem Lines.indent {ls : List (List Nat)} {B : Nat} (h : Lines ls B) (n : Nat) (first blank : Bool) : Lines (indL (List.replicate n 32) first blank ls) (B + n) where
  ne := indL_ne _ _ _ h.ne
  len := by rw [indL_len]; exact h.len
  safe := fun x hx => by
    obtain ⟨l, hl, e | e⟩ := indL_mem hx
    · rw [e]; exact h.safe l hl
    · rw [e]; exact noBreak_app (noBreak_spaces n) (h.safe l hl)
  short := fun x hx => by
    obtain ⟨l, hl, e | e⟩ := indL_mem hx
    · have := h.short l hl
      rw [e]; omega
    · have := h.short l hl
      rw [e]; simp; omega
theorem Tx_list (x : Str) : Tx x.cps.toList = x := by simp [Tx]
section
variable {prog : Program} {w : World} {A : Around} {s s₀ : Shared} {L : Addr} {m cm : Str → Option Value} {Q : Flow → Shared → Prop}
def textsV (ts : Nat → Tok) : List Value := [.str (Tx []) (ts 0), .str (Tx [111, 110, 101]) (ts 1), .str (Tx [32, 116, 119, 111]) (ts 2), .str (Tx [32, 32]) (ts 3)]
theorem texts_at (ts : Nat → Tok) (i : Nat) (h : i < 4) : ∃ l t, (textsV ts)[i]? = some (.str (Tx l) t) ∧ noBreak l ∧ l.length ≤ 4 := by
  have nb : ∀ l : List Nat, l.all (fun c => Unicode.isLineBreak c == false) = true → noBreak l := fun l h c hc => by
    have := List.all_eq_true.mp h c hc
    exact beq_iff_eq.mp this
  match i, h with
  | 0, _ => exact ⟨[], ts 0, rfl, nb [] (by kernel_rfl), by decide⟩
  | 1, _ => exact ⟨[111, 110, 101], ts 1, rfl, nb [111, 110, 101] (by kernel_rfl), by decide⟩
  | 2, _ => exact ⟨[32, 116, 119, 111], ts 2, rfl, nb [32, 116, 119, 111] (by kernel_rfl), by decide⟩
  | 3, _ => exact ⟨[32, 32], ts 3, rfl, nb [32, 32] (by kernel_rfl), by decide⟩
/-- two names take a pair, stored the other way round -/
theorem swap2 {env : Env} {a b : Str} {T : Addr} {x y : Value} {Q : Flow → Shared → Prop} (hh : A.handled = none) (F : Run env s₀ m cm s) (ht : IsT s T [x, y])
    (h : ∀ s', Step0 s s' → Run env s₀ m cm s' → wpAny (model prog w) A (storeName env b y) (fun _ s₂ => wpAny (model prog w) A (storeName env a x) (fun _ => Q .next) NoE s₂) NoE s') :
    wpAny (model prog w) A (unpackItems (.ref T) 2 none) (fun items s₂ => wpAny (model prog w) A (assignInOrder [bindName env b, bindName env a] items.reverse) (fun _ => Q .next) NoE s₂) NoE s := by
  have ht' : s.heap.IsTuple T #[x, y] := ⟨_, ht, rfl, 0, rfl⟩
  have key := wpAny_unpackItems_tuple (prog := prog) (w := w) (A := A) (E := NoE) (Q := fun items s₂ => wpAny (model prog w) A (assignInOrder [bindName env b, bindName env a] items.reverse) (fun _ => Q .next) NoE s₂) hh ht' fun h' hx => ?_
  · exact key
  have st : Step0 s { s with heap := h' } := Step.of_extBut hx
  have e2 : (#[x, y] : Array Value).toList.reverse = [y, x] := rfl
  rw [e2]
  have h0 := h _ st (F.step0 st)
  refine wpAny_inOrder_cons ?_
  refine bindName_ (wpAny_mono h0 (fun _ s₂ q => ?_) fun _ _ q => q)
  refine wpAny_inOrder_cons ?_
  refine bindName_ (wpAny_mono q (fun _ s₃ q => ?_) fun _ _ q => q)
  exact wpAny_inOrder_nil q
end
end Mine
end
section
open PySem PySem.W PySem.W.X PyProof.Rows
namespace Mine
section
variable {prog : Program} {w : World} {A : Around} {s s₀ : Shared} {L : Addr} {m cm : Str → Option Value} {Q : Flow → Shared → Prop}
theorem tup_swap {M : Model} {E : Value → Shared → Prop} {env : Env} {elts k tpos value pos} {a b : Str} {Q : Flow → Shared → Prop}
    (h : wpAny M A (eval value env) (fun v s₁ => wpAny M A (unpackItems v 2 none) (fun items s₂ => wpAny M A (assignInOrder [bindName env b, bindName env a] items.reverse) (fun _ => Q .next) E s₂) E s₁) E s)
    (hs : swapsWithSole [.Tuple elts k tpos] value pos.line env = pure false)
    (hw : swappedStores [.Tuple elts k tpos] value env = pure (some [a, b])) :
    wpAny M A (exec (.Assign [.Tuple elts k tpos] value pos) env) Q E s := Assign_Tuple_swapped (names := [a, b]) h hs hw
def asgTs (i : Nat) : List Expr := match inAt 33 i with
  | .Assign ts _ _ => ts
  | _ => []
def asgV (i : Nat) : Expr := match inAt 33 i with
  | .Assign _ v _ => v
  | _ => noEx
def asgP (i : Nat) : Pos := match inAt 33 i with
  | .Assign _ _ p => p
  | _ => default
theorem sw32 (P : Params) (L : Addr) : swappedStores (asgTs 32) (asgV 32) (LE P L) = pure (some [("first" : Str), "blank"]) := by kernel_rfl
theorem ss32 (P : Params) (L : Addr) : swapsWithSole (asgTs 32) (asgV 32) (asgP 32).line (LE P L) = pure false := by kernel_rfl
theorem sw33 (P : Params) (L : Addr) : swappedStores (asgTs 33) (asgV 33) (LE P L) = pure (some [("one" : Str), "other"]) := by kernel_rfl
theorem ss33 (P : Params) (L : Addr) : swapsWithSole (asgTs 33) (asgV 33) (asgP 33).line (LE P L) = pure false := by kernel_rfl
theorem c_s32 {na : Addr} {z : Nat → Int} (F : Run (LE w.params L) s₀ m cm s) (R : Rm A 600 900) (c1 : cm "numbers" = some (.ref na)) (hn : IsNums s na z)
    (k : ∀ (first blank : Bool) s', Run (LE w.params L) s₀ (stv "first" (.bool first) (stv "blank" (.bool blank) m)) cm s' → Step (Hot (LE w.params L)) s s' → Q .next s') :
    wpAny (model prog w) A (exec (inAt 33 32) (LE w.params L)) Q NoE s := by
  refine tup_swap (a := "first") (b := "blank") ?_ (ss32 w.params L) (sw32 w.params L)
  refine Tuple_ (spliced_more (wpAny_Compare1 (wpAny_BinOp (g_num (j := 15) (cl w.params L "numbers") F c1 hn (by decide) fun t s2 h2 => g_int fun t3 s3 h3 => op_modi (by decide) fun t4 s4 h4 => g_int fun t5 s5 h5 => cmp_eq (a := .i _) (b := .i 1) ⟨_, rfl⟩ ⟨_, rfl⟩ rfl ?_))))
  have st5 := h2.trans (h3.trans (h4.trans h5))
  generalize decide (Key.i ((z 15).fmod 2) = Key.i 1) = first
  refine spliced_more (wpAny_Compare1 (wpAny_BinOp (wpAny_BinOp (g_num (j := 15) (cl w.params L "numbers") (F.step0 st5) c1 (hn.step0 st5) (by decide) fun t8 s8 h8 => g_int fun t9 s9 h9 => op_divi (by decide) (PyProof.noPylong_of_log2 (by decide +kernel)) fun t10 s10 h10 => g_int fun t11 s11 h11 => op_modi (by decide) fun t12 s12 h12 => g_int fun t13 s13 h13 => cmp_eq (a := .i _) (b := .i 1) ⟨_, rfl⟩ ⟨_, rfl⟩ rfl ?_))))
  have st13 := st5.trans (h8.trans (h9.trans (h10.trans (h11.trans (h12.trans h13)))))
  generalize decide (Key.i (((z 15).fdiv 2).fmod 2) = Key.i 1) = blank
  refine spliced_none (op_newT (by simp) fun T s14 h14 hT nT => ?_)
  refine swap2 R.handled (F.step0 (st13.trans h14)) hT fun s15 h15 F15 => ?_
  refine g_st F15 fun s16 F16 h16 => g_st F16 fun s17 F17 h17 => ?_
  exact k first blank s17 F17 ((st13.trans (h14.trans h15)).up.trans (h16.trans h17))
theorem c_s33 {na : Addr} {z : Nat → Int} (F : Run (LE w.params L) s₀ m cm s) (R : Rm A 600 900) (c1 : cm "numbers" = some (.ref na)) (hn : IsNums s na z)
    (k : ∀ (one other : Nat) t1 t2 s', one ≤ 3 → other ≤ 4 → Run (LE w.params L) s₀ (stv "one" (.int one t1) (stv "other" (.int other t2) m)) cm s' → Step (Hot (LE w.params L)) s s' → Q .next s') :
    wpAny (model prog w) A (exec (inAt 33 33) (LE w.params L)) Q NoE s := by
  obtain ⟨one, e1, l1⟩ := fmod_at (z 16) 4 (by decide)
  obtain ⟨other, e2, l2⟩ := fmod_at (z 17) 5 (by decide)
  refine tup_swap (a := "one") (b := "other") ?_ (ss33 w.params L) (sw33 w.params L)
  refine Tuple_ (spliced_more (wpAny_BinOp (g_num (j := 16) (cl w.params L "numbers") F c1 hn (by decide) fun t s2 h2 => g_int fun t3 s3 h3 => op_modi (by decide) fun t4 s4 h4 => ?_)))
  rw [show (z 16).fmod 4 = (one : Int) from e1]
  have st4 := h2.trans (h3.trans h4)
  refine spliced_more (wpAny_BinOp (g_num (j := 17) (cl w.params L "numbers") (F.step0 st4) c1 (hn.step0 st4) (by decide) fun t5 s5 h5 => g_int fun t6 s6 h6 => op_modi (by decide) fun t7 s7 h7 => ?_))
  rw [show (z 17).fmod 5 = (other : Int) from e2]
  have st7 := st4.trans (h5.trans (h6.trans h7))
  refine spliced_none (op_newT (by simp) fun T s14 h14 hT nT => ?_)
  refine swap2 R.handled (F.step0 (st7.trans h14)) hT fun s15 h15 F15 => ?_
  refine g_st F15 fun s16 F16 h16 => g_st F16 fun s17 F17 h17 => ?_
  exact k one other _ _ s17 (by omega) (by omega) F17 ((st7.trans (h14.trans h15)).up.trans (h16.trans h17))
end
end Mine
end
section
open PySem PySem.W PySem.W.X PyProof.Rows
namespace Mine
theorem pow4 (i : Nat) (h : i ≤ 4) : (4 : Int) ^ ((i : Int)).toNat ≠ 0 ∧ ((4 : Int) ^ ((i : Int)).toNat).natAbs < 1073741824 := by
  rw [Int.toNat_natCast]
  match i, h with
  | 0, _ => exact ⟨by decide, by decide⟩
  | 1, _ => exact ⟨by decide, by decide⟩
  | 2, _ => exact ⟨by decide, by decide⟩
  | 3, _ => exact ⟨by decide, by decide⟩
  | 4, _ => exact ⟨by decide, by decide⟩
section
variable {prog : Program} {w : World} {A : Around} {s s₀ : Shared} {L : Addr} {m cm : Str → Option Value} {Q : Flow → Shared → Prop}
/-- text -/
theorem c_s31 {na : Addr} {z : Nat → Int} (X : (KP w.params).In s₀.heap) (F : Run (LE w.params L) s₀ m cm s) (R : Rm A 600 900) (c1 : cm "numbers" = some (.ref na)) (hn : IsNums s na z) (nn : ¬ Hot (LE w.params L) na)
    (k : ∀ ls t s', Run (LE w.params L) s₀ (stv "text" (.str (Tx (jn [10] ls)) t) m) cm s' → Step (Hot (LE w.params L)) s s' → Lines ls 4 → Q .next s') :
    wpAny (model prog w) A (exec (inAt 33 31) (LE w.params L)) Q NoE s := by
  refine wpAny_Assign_Name (MethodCall_ (g_str fun t1 s1 h1 => ?_))
  rw [show Str.ofString "\n" = Tx [10] from by kernel_rfl]
  have F1 := F.step0 h1
  obtain ⟨r, er, lr⟩ := fmod_at (z 14) 5 (by decide)
  refine GM.join (cw_builtin (spliced_more (comp_pure X F1 (Call_ (g_built F1 X (.type "range") (cw_type (spliced_more (wpAny_BinOp (g_int fun t2 s2 h2 => wpAny_BinOp (g_num (j := 14) (cl w.params L "numbers") (F1.step0 h2) c1 ((hn.step0 h1).step0 h2) (by decide) fun t3 s3 h3 => g_int fun t4 s4 h4 => op_modi (by decide) fun t5 s5 h5 => op_addi fun t6 s6 h6 => ?_))))))))))
  rw [show (1 : Int) + (z 14).fmod 5 = ((1 + r : Nat) : Int) from by rw [show (z 14).fmod 5 = (r : Int) from er]; omega]
  have st6 : Step0 s1 s6 := h2.trans (h3.trans (h4.trans (h5.trans h6)))
  refine spliced_none (clause_range R.handled X F1 st6 (by omega) (fun C => by kernel_rfl) (fun C => by kernel_rfl) fun I s7 V St cla => ⟨I, _, _, _, V, _, St, fun i y => ∃ l t, y = .str (Tx l) t ∧ noBreak l ∧ l.length ≤ 4, cla, ?_, fun D ys s8 hD hl hG nD h8 => ?_⟩)
  · rintro i C mm m' s8 hi ⟨v, ⟨ti, rfl⟩, rfl⟩ R8 st8
    have hn8 := (hn.step0 h1).step st8 nn
    refine Subscript_ (List_ (spliced_more (g_str fun u1 q1 g1 => spliced_more (g_str fun u2 q2 g2 => spliced_more (g_str fun u3 q3 g3 => spliced_more (g_str fun u4 q4 g4 => spliced_none ?_))))))
    have gt4 := g1.trans (g2.trans (g3.trans g4))
    have R9 := R8.step0 gt4
    refine op_newList (by simp) (fun lv q5 g5 hlv _ _ => ?_) (size_ge (R9.K X))
    have gt5 := gt4.trans g5
    have R10 := R8.step0 gt5
    obtain ⟨hp4, hsmall⟩ := pow4 i (by omega)
    refine wpAny_BinOp (wpAny_BinOp (g_num (j := 13) (cl w.params L "numbers") R10 c1 (hn8.step0 gt5) (by decide) fun t9 s9 h9 => wpAny_BinOp (g_int fun t10 s10 h10 => g_ld ((R10.step0 h9).step0 h10) putN (pow_int_small (by omega) (by omega) (by decide) (op_divi hp4 (PyProof.noPylong_small hsmall) fun t11 s11 h11 => g_int fun t12 s12 h12 => op_modi (by decide) fun t13 s13 h13 => ?_)))))
    obtain ⟨r2, er2, lr2⟩ := fmod_at ((z 13).fdiv ((4 : Int) ^ ((i : Int)).toNat)) 4 (by decide)
    rw [show ((z 13).fdiv ((4 : Int) ^ ((i : Int)).toNat)).fmod 4 = (r2 : Int) from er2]
    have gt13 : Step0 q5 s13 := h9.trans (h10.trans ((Step0.toks s10 _).trans (h11.trans (h12.trans h13))))
    obtain ⟨l, t, e1, e2, e3⟩ := texts_at (fun i => [u1, u2, u3, u4].getD i 0) r2 lr2
    exact sub_item (hlv.step0 gt13) e1 (by simp) ⟨gt5.trans gt13, l, t, rfl, e2, e3⟩ rfl
  · obtain ⟨q, hq⟩ := exists_strValues ys (fun v hv => by
      obtain ⟨i, e⟩ := List.getElem?_of_mem hv
      obtain ⟨l, t, e, _⟩ := hG i v e
      exact ⟨_, _, e⟩)
    have each : ∀ p ∈ q, noBreak p.1.cps.toList ∧ p.1.cps.toList.length ≤ 4 := fun p hp => by
      have hv : Value.str p.1 p.2 ∈ ys := by rw [← hq]; exact List.mem_map.mpr ⟨p, hp, rfl⟩
      obtain ⟨i, e⟩ := List.getElem?_of_mem hv
      obtain ⟨l, t, e, e2, e3⟩ := hG i _ e
      injection e with e _
      have : p.1.cps.toList = l := by rw [e]; rfl
      rw [this]; exact ⟨e2, e3⟩
    have tx : IsTxts s8 D (q.map fun p => p.1.cps.toList) := ⟨q, by rw [hq]; exact hD, by simp [Tx_list]⟩
    have ql : q.length = 1 + r := by rw [← hl, ← hq]; simp [strValues]
    have F8 := F1.step0 h8
    refine spliced_none (op_joinT tx (by simp; omega) (fun l hl => ?_) (by decide) fun t9 s9 h9 => ?_)
    · obtain ⟨p, hp, rfl⟩ := List.mem_map.mp hl
      exact Nat.le_trans (each p hp).2 (by decide)
    · refine g_st (F8.step0 h9) fun s10 F10 h10 => ?_
      refine k _ t9 s10 F10 ((h1.trans (h8.trans h9)).up.trans h10) ⟨?_, by simp; omega, fun l hl => ?_, fun l hl => ?_⟩
      · intro e
        have h0 : q.length = 0 := by
          have := congrArg List.length e
          rwa [List.length_map, List.length_nil] at this
        omega
      · obtain ⟨p, hp, rfl⟩ := List.mem_map.mp hl
        exact (each p hp).1
      · obtain ⟨p, hp, rfl⟩ := List.mem_map.mp hl
        exact (each p hp).2
end
end Mine
end
section
open PySem PySem.W PySem.W.X PyProof.Rows
namespace Mine
section
variable {prog : Program} {w : World} {A : Around} {s s₀ : Shared} {L : Addr} {m cm : Str → Option Value} {Q : Flow → Shared → Prop}
theorem cmp_eq_T {a : List Nat} {t u : Tok} {Q : Value → Shared → Prop} (h : Q (.bool true) s) : wpAny (model prog w) A (compareOp .Eq (.str (Tx a) t) (.str (Tx a) u)) Q NoE s := by
  refine cmp_eq (a := .s a) (b := .s a) ⟨_, t, rfl, rfl⟩ ⟨_, u, rfl, rfl⟩ rfl ?_
  rw [show decide (Key.s a = Key.s a) = true from decide_eq_true rfl]; exact h
theorem Lines.call {ls : List (List Nat)} {B n : Nat} (h : Lines ls B) (hB : B ≤ 100) {wv : Value} {t : Tok} {first blank : Bool} {Q : Value → Shared → Prop} (R : Rm A 600 900) (X : (KP w.params).In s.heap) (TB : TabsOk s.heap) (hw : IsW wv n) (hn : n ≤ 100)
    (k : ∀ t' s', Step0 s s' → Q (.str (Tx (jn [10] (indL (List.replicate n 32) first blank ls))) t') s') : wpAny (model prog w) A (call (.ref 287) [.str (Tx (jn [10] ls)) t, wv, .bool first, .bool blank]) Q NoE s :=
  c_indent (t := t) (args := ⟨[.str (Tx (jn [10] ls)) t, wv, .bool first, .bool blank], []⟩) R.mono X TB hw hn h.ne (Nat.le_trans h.len (by decide)) h.safe (fun l hl => Nat.le_trans (h.short l hl) hB) (by kernel_rfl) k
theorem c_s34 {ls : List (List Nat)} {t t1 t2 : Tok} {first blank : Bool} {one other : Nat} (X : (KP w.params).In s₀.heap) (TB : TabsOk s₀.heap) (F : Run (LE w.params L) s₀ m cm s) (R : Rm A 600 900) (m1 : m "text" = some (.str (Tx (jn [10] ls)) t)) (m2 : m "first" = some (.bool first)) (m3 : m "blank" = some (.bool blank)) (m4 : m "one" = some (.int one t1)) (m5 : m "other" = some (.int other t2))
    (hl : Lines ls 4) (h1 : one ≤ 3) (h2 : other ≤ 4) (k : ∀ s', Run (LE w.params L) s₀ m cm s' → Step (Hot (LE w.params L)) s s' → Q (.ret (.bool true)) s') :
    wpAny (model prog w) A (exec (inAt 33 34) (LE w.params L)) Q NoE s := by
  refine wpAny_Return_some (BoolOp_and (wpAny_Compare1 (Call_ (g_glob F X (.ref 287) (cw_fn (spliced_more (Call_ (g_glob F X (.ref 287) (cw_fn (spliced_more (g_ld F m1 (spliced_more (g_ld F m4 (spliced_more (g_ld F m2 (spliced_more (g_ld F m3 (spliced_none ⟨isFn_K (F.K X), ?_⟩))))))))))))))))))
  refine hl.call (by decide) R (F.K X) (F.since.tab TB) ⟨t1, .inl rfl⟩ (by omega) fun t3 s3 h3 => ?_
  have F3 := F.step0 h3
  refine spliced_more (g_ld F3 m5 (spliced_more (g_ld F3 m2 (spliced_more (g_ld F3 m3 (spliced_none ⟨isFn_K (F3.K X), ?_⟩))))))
  refine (hl.indent one first blank).call (by omega) R (F3.K X) (F3.since.tab TB) ⟨t2, .inl rfl⟩ (by omega) fun t4 s4 h4 => ?_
  have F4 := F3.step0 h4
  refine Call_ (g_glob F4 X (.ref 287) (cw_fn (spliced_more (g_ld F4 m1 (spliced_more (wpAny_BinOp (g_ld F4 m4 (g_ld F4 m5 (op_addi fun t5 s5 h5 => ?_)))))))))
  have F5 := F4.step0 h5
  rw [show ((one : Nat) : Int) + ((other : Nat) : Int) = ((one + other : Nat) : Int) from by omega]
  refine spliced_more (g_ld F5 m2 (spliced_more (g_ld F5 m3 (spliced_none ⟨isFn_K (F5.K X), ?_⟩))))
  refine hl.call (by decide) R (F5.K X) (F5.since.tab TB) ⟨t5, .inl rfl⟩ (by omega) fun t6 s6 h6 => ?_
  have F6 := F5.step0 h6
  have e : indL (List.replicate other 32) first blank (indL (List.replicate one 32) first blank ls) = indL (List.replicate (one + other) 32) first blank ls := by
    rw [indL_twice, Nat.add_comm one other, List.replicate_append_replicate]
  rw [e]
  refine cmp_eq_T (wpAny_truthy_bool ?_)
  simp only [if_true]
  refine BoolOp_one (wpAny_Compare1 (Call_ (g_glob F6 X (.ref 287) (cw_fn (spliced_more (g_ld F6 m1 (spliced_more (wpAny_BinOp (g_str fun t7 s7 h7 => ?_)))))))))
  rw [show Str.ofString " " = Tx [32] from by kernel_rfl]
  have F7 := F6.step0 h7
  refine g_ld F7 m5 (op_spaces (by omega) fun t8 s8 h8 => ?_)
  have F8 := F7.step0 h8
  refine spliced_more (g_ld F8 m2 (spliced_more (g_ld F8 m3 (spliced_none ⟨isFn_K (F8.K X), ?_⟩))))
  refine hl.call (n := other) (by decide) R (F8.K X) (F8.since.tab TB) ⟨t8, .inr rfl⟩ (by omega) fun t9 s9 h9 => ?_
  have F9 := F8.step0 h9
  refine Call_ (g_glob F9 X (.ref 287) (cw_fn (spliced_more (g_ld F9 m1 (spliced_more (g_ld F9 m5 (spliced_more (g_ld F9 m2 (spliced_more (g_ld F9 m3 (spliced_none ⟨isFn_K (F9.K X), ?_⟩)))))))))))
  refine hl.call (n := other) (by decide) R (F9.K X) (F9.since.tab TB) ⟨t2, .inl rfl⟩ (by omega) fun t10 s10 h10 => ?_
  exact cmp_eq_T (k s10 (F9.step0 h10) (h3.trans (h4.trans (h5.trans (h6.trans (h7.trans (h8.trans (h9.trans h10))))))).up)
end
end Mine
end
section
open PySem PySem.W PySem.W.X PyProof.Rows
namespace Mine
def lawTail : List Stmt := (fnBody 33).drop 26
section
variable {prog : Program} {w : World} {A : Around} {s s₀ : Shared} {L : Addr} {m cm : Str → Option Value} {Q : Flow → Shared → Prop} {K : Type} [DecidableEq K] {knd : KeyKind prog w K}
theorem law_tail {conv : K → Key} {ib back ex : Bool} (KD : Kinded knd conv ib) {ra na : Addr} {z : Nat → Int} {as : List Addr} {T : List Value} (X : (KP w.params).In s₀.heap) (TB : TabsOk s₀.heap) (F : Run (LE w.params L) s₀ m cm s) (R : Rm A 600 900)
    (m1 : m "rows" = some (.ref ra)) (m2 : m "back" = some (.bool back)) (c1 : cm "numbers" = some (.ref na)) (c2 : cm "exact" = some (.bool ex)) (hl : IsL s ra (as.map .ref)) (hr : RowsOf prog w (LE w.params L) s as T) (ht : Things T ib) (hz : T.length ≤ 9) (hn : IsNums s na z) (nn : ¬ Hot (LE w.params L) na)
    (k : ∀ s', Step0 s₀ s' → Q (.ret (.bool true)) s') : wpAny (model prog w) A (execs lawTail (LE w.params L)) Q NoE s := by
  refine wpAny_execs_cons (c_s26 (knd := knd) (conv := conv) (T := T) F fun d s1 F1 h1 N1 cd dn => ?_)
  have dS : (d == sysModules) = false := by
    have e1 : s.heap.get? 1 = some (objAt w.params 1) := F.K X 1 _ (by kernel_rfl)
    have : d ≠ 1 := fun q => by rw [q, e1] at dn; cases dn
    exact beq_eq_false_iff_ne.mpr this
  have had : ∀ a ∈ as, a ≠ d := fun a ha => by
    obtain ⟨i, e⟩ := List.getElem?_of_mem ha
    exact ne_new (hr.2.2 i a e).2.some dn
  have hrd : ra ≠ d := ne_new hl.some dn
  have hnd : na ≠ d := ne_new (let ⟨_, a, _⟩ := hn; a.some) dn
  have hl1 := hl.hot F.act h1
  have hr1 := hr.hot h1
  have hn1 := hn.step h1 nn
  refine wpAny_execs_cons (c_s27 KD X F1 R m1 (by kernel_rfl) hl1 hr1 ht hz N1 cd (F.newAt dn) had hrd fun m' kvs s2 hm' F2 h2 N2 => ?_)
  have hn2 := hn1.step h2 (fun q => q.elim nn hnd)
  have c12 : stv "named" (.ref d) cm "numbers" = some (.ref na) := keepN c1
  have c22 : stv "named" (.ref d) cm "exact" = some (.bool ex) := keepN c2
  have m22 : m' "back" = some (.bool back) := (hm' _ (by decide)).trans m2
  refine wpAny_execs_cons (c_s28 KD X F2 R (by kernel_rfl) N2 cd dS fun pa ps s3 F3 h3 hpa hps => ?_)
  have N3 := N2.step h3 cd
  have hn3 := hn2.step h3 nn
  refine wpAny_execs_cons (c_s29 (back := back) (ex := ex) KD X TB F3 R (by kernel_rfl) (keepN m22) (by kernel_rfl) c22 N3 dS ht hpa hps fun s4 F4 h4 => ?_)
  have N4 := N3.step h4 cd
  have hn4 := hn3.step h4 nn
  have hpa4 := hpa.hot F3.act h4
  have hps4 := hps.hot hps.1 F3.act h4
  refine wpAny_execs_cons (c_s30 (back := back) KD X TB F4 R (by kernel_rfl) (keepN m22) (by kernel_rfl) N4 dS hpa4 hps4 fun s5 F5 h5 => ?_)
  have hn5 := hn4.step h5 nn
  refine wpAny_execs_cons (c_s31 X F5 R c12 hn5 nn fun ls t s6 F6 h6 hls => ?_)
  have hn6 := hn5.step h6 nn
  refine wpAny_execs_cons (c_s32 F6 R c12 hn6 fun first blank s7 F7 h7 => ?_)
  have hn7 := hn6.step h7 nn
  refine wpAny_execs_cons (c_s33 F7 R c12 hn7 fun one other t1 t2 s8 l1 l2 F8 h8 => ?_)
  exact wpAny_execs_cons (c_s34 (ls := ls) (t := t) (t1 := t1) (t2 := t2) (first := first) (blank := blank) (one := one) (other := other) X TB F8 R (by kernel_rfl) (by kernel_rfl) (by kernel_rfl) (by kernel_rfl) (by kernel_rfl) hls l1 l2 fun s9 F9 h9 => k s9 F9.since)
end
section
variable {w : World} {A : Around} {s : Shared}
theorem c_law {sc : Addr} {xs : List Value} {Q : Value → Shared → Prop} (R : Rm A 599 897) (X : (KP w.params).In s.heap) (TB : TabsOk s.heap) (hx : IsL s sc xs) (hz : xs.length ≤ 900) (hi : ∀ v ∈ xs, ∃ n t, v = Value.int n t) (k : ∀ s', Step0 s s' → Q (.bool true) s') :
    wpAny (model prog0 w) A (call (.ref 405) [.ref sc]) Q NoE s := by
  refine call_txt 33 405 (args := ⟨[.ref sc], []⟩) (binds := [("script", .ref sc)]) X (Nat.lt_of_le_of_lt R.depth (by decide)) (by kernel_rfl) (fun L => List.forall_mem_cons.mpr ⟨.inl (by kernel_rfl), List.forall_mem_nil _⟩) (fun L hL s1 F0 h01 hnew => ?_)
  have R1 := R.deeper (EV 33 405 w.params L)
  have F1 : Run (LE w.params L) s _ _ s1 := ⟨F0, h01, hnew⟩
  refine wpAny_execs_cons (c_s0 X F1 R1 (by kernel_rfl) (hx.step0 h01) hz hi fun na z s2 F2 h2 hn nn => ?_)
  refine wpAny_execs_cons (c_s1 F2 R1 (by kernel_rfl) hn fun sz kd p t1 t2 t3 s3 hsz hp hp2 F3 h3 => ?_)
  have hn3 := hn.step h3 nn
  refine wpAny_execs_cons (c_s2 F3 R1 (by kernel_rfl) hn3 fun back ex s4 F4 h4 => ?_)
  have hn4 := hn3.step h4 nn
  refine wpAny_execs_cons (c_s3 X F4 fun wa ts s5 F5 h5 hw nw => ?_)
  have hn5 := hn4.step h5 nn
  refine wpAny_execs_cons (c_s4 (kd := kd) (sz := sz) (t1 := t1) (t2 := t2) X F5 R1 (by kernel_rfl) (by kernel_rfl) (by kernel_rfl) (by kernel_rfl) hn5 nn hw nw hsz fun ta T s6 F6 h6 hT nT hTl ht => ?_)
  subst hTl
  have hn6 := hn5.step h6 nn
  refine wpAny_execs_cons (c_s5 X F6 R1 fun wd d s7 F7 h7 hwd nwd nd => ?_)
  have hn7 := hn6.step h7 nn
  have hT7 := hT.hot F6.act h7
  refine wpAny_execs_cons (c_s6 (p := p) (tp := t3) X F7 R1 (by kernel_rfl) (by kernel_rfl) hT7 hsz hp hp2 fun ba s8 F8 h8 hB => ?_)
  have hn8 := hn7.step h8 nn
  have hT8 := hT7.hot F7.act h8
  have hwd8 := hwd.step h8 nwd nd
  refine wpAny_execs_cons (c_s7 (p := p) (tp := t3) (tz := t1) X F8 R1 (by kernel_rfl) (by kernel_rfl) (by kernel_rfl) (by kernel_rfl) hT8 hB hsz hp hp2 fun s9 F9 h9 => ?_)
  have hn9 := hn8.step h9 nn
  have hT9 := hT8.hot F8.act h9
  have hB9 := hB.hot F8.act h9
  have hwd9 := hwd8.step h9 nwd nd
  refine wpAny_execs_cons (c_s8 (p := p) (tp := t3) X F9 R1 (by kernel_rfl) (by kernel_rfl) hT9 hsz hp hp2 fun fa tx s10 F10 h10 hF => ?_)
  have hn10 := hn9.step h10 nn
  have hT10 := hT9.hot F9.act h10
  have hB10 := hB9.hot F9.act h10
  have hwd10 := hwd9.step h10 nwd nd
  refine wpAny_execs_cons (c_s9 (p := p) (tp := t3) (tx := tx) X F10 R1 (by kernel_rfl) (by kernel_rfl) (by kernel_rfl) hB10 hF hsz hp hp2 fun s11 F11 h11 => ?_)
  have hn11 := hn10.step h11 nn
  have hT11 := hT10.hot F10.act h11
  have hwd11 := hwd10.step h11 nwd nd
  refine wpAny_execs_cons (c_s10 (p := p) (tp := t3) X F11 R1 (by kernel_rfl) (by kernel_rfl) hT11 hsz hp hp2 fun sa s12 F12 h12 hS => ?_)
  have hn12 := hn11.step h12 nn
  have hT12 := hT11.hot F11.act h12
  have hwd12 := hwd11.step h12 nwd nd
  refine wpAny_execs_cons (c_s11 (p := p) (tp := t3) (tz := t1) X F12 R1 (by kernel_rfl) (by kernel_rfl) (by kernel_rfl) (by kernel_rfl) hT12 hS hsz hp hp2 fun s13 F13 h13 => ?_)
  have hn13 := hn12.step h13 nn
  have hT13 := hT12.hot F12.act h13
  have hS13 := hS.hot F12.act h13
  have hwd13 := hwd12.step h13 nwd nd
  refine wpAny_execs_cons (c_s12 (p := p) (tp := t3) (tz := t1) X F13 R1 (by kernel_rfl) (by kernel_rfl) (by kernel_rfl) (by kernel_rfl) hT13 hS13 hsz hp hp2 fun s14 F14 h14 => ?_)
  have hn14 := hn13.step h14 nn
  have hT14 := hT13.hot F13.act h14
  have hwd14 := hwd13.step h14 nwd nd
  refine wpAny_execs_cons (c_s13 X F14 R1 (by kernel_rfl) hT14 hsz fun ra as s15 F15 h15 hra hr => ?_)
  have hn15 := hn14.step h15 nn
  have hT15 := hT14.hot F14.act h15
  have hwd15 := hwd14.step h15 nwd nd
  refine wpAny_execs_cons (c_s14 X TB F15 fun f nm cv ct s16 F16 h16 hf cf => ?_)
  have hn16 := hn15.step h16 nn
  have hT16 := hT15.hot F15.act h16
  have hwd16 := hwd15.step h16 nwd nd
  have hra16 := hra.hot F15.act h16
  have hr16 := hr.hot h16
  refine wpAny_execs_cons (c_s15 (back := back) (ex := ex) X F16 R1 (by kernel_rfl) (by kernel_rfl) (by kernel_rfl) (by kernel_rfl) hra16 hr16 ht hsz hf fun oa s17 F17 h17 ho => ?_)
  have hn17 := hn16.step h17 nn
  have hT17 := hT16.hot F16.act h17
  have hwd17 := hwd16.step h17 nwd nd
  have hra17 := hra16.hot F16.act h17
  have hr17 := hr16.hot h17
  have hf17 := hf.hot F16 cf h17
  refine wpAny_execs_cons (c_s16 (back := back) (ex := ex) X TB F17 R1 (by kernel_rfl) (by kernel_rfl) (by kernel_rfl) (by kernel_rfl) hra17 hr17 ht hsz hwd17 fun tl s18 F18 h18 htl => ?_)
  have hn18 := hn17.step h18 nn
  have hT18 := hT17.hot F17.act h18
  have hwd18 := hwd17.step h18 nwd nd
  have hra18 := hra17.hot F17.act h18
  have hr18 := hr17.hot h18
  have hf18 := hf17.hot F17 cf h18
  have ho18 := ho.hot F17.act h18
  refine wpAny_execs_cons (c_s17 (back := back) (ex := ex) X TB F18 R1 (by kernel_rfl) (by kernel_rfl) (by kernel_rfl) (by kernel_rfl) (by kernel_rfl) htl ho18 hr18 ht hsz hwd18 fun s19 F19 h19 => ?_)
  have hn19 := hn18.step h19 nn
  have hT19 := hT18.hot F18.act h19
  have hwd19 := hwd18.step h19 nwd nd
  have hra19 := hra18.hot F18.act h19
  have hr19 := hr18.hot h19
  have hf19 := hf18.hot F18 cf h19
  have ho19 := ho18.hot F18.act h19
  refine wpAny_execs_cons (c_s18 (back := back) (ex := ex) X TB F19 R1 (by kernel_rfl) (by kernel_rfl) (by kernel_rfl) (by kernel_rfl) (by kernel_rfl) hT19 ho19 hr19 ht hsz hwd19 fun s20 F20 h20 => ?_)
  have hn20 := hn19.step h20 nn
  have hT20 := hT19.hot F19.act h20
  have hwd20 := hwd19.step h20 nwd nd
  have hra20 := hra19.hot F19.act h20
  have hr20 := hr19.hot h20
  have hf20 := hf19.hot F19 cf h20
  refine wpAny_execs_cons (c_s19 (ex := ex) X TB F20 R1 (by kernel_rfl) (by kernel_rfl) (by kernel_rfl) hra20 hr20 ht hsz hwd20 fun ga tg s21 F21 h21 hg => ?_)
  have hn21 := hn20.step h21 nn
  have hT21 := hT20.hot F20.act h21
  have hwd21 := hwd20.step h21 nwd nd
  have hra21 := hra20.hot F20.act h21
  have hr21 := hr20.hot h21
  have hf21 := hf20.hot F20 cf h21
  refine wpAny_execs_cons (c_s20 (ex := ex) X F21 R1 (by kernel_rfl) (by kernel_rfl) (by kernel_rfl) hra21 hr21 ht hsz hf21 fun xa s22 F22 h22 hxa => ?_)
  have hn22 := hn21.step h22 nn
  have hT22 := hT21.hot F21.act h22
  have hwd22 := hwd21.step h22 nwd nd
  have hra22 := hra21.hot F21.act h22
  have hr22 := hr21.hot h22
  have hf22 := hf21.hot F21 cf h22
  have hg22 := hg.hot F21.act h22
  refine wpAny_execs_cons (c_s21 (ex := ex) X F22 R1 (by kernel_rfl) (by kernel_rfl) hg22 hxa hr22 ht hsz fun s23 F23 h23 => ?_)
  have hn23 := hn22.step h23 nn
  have hT23 := hT22.hot F22.act h23
  have hwd23 := hwd22.step h23 nwd nd
  have hra23 := hra22.hot F22.act h23
  have hr23 := hr22.hot h23
  have hf23 := hf22.hot F22 cf h23
  have hg23 := hg22.hot F22.act h23
  refine wpAny_execs_cons (c_s22 (ex := ex) X F23 R1 (by kernel_rfl) (by kernel_rfl) hg23 hr23 ht hsz fun ma M s24 F24 h24 hM hMl hMk hgm => ?_)
  have hn24 := hn23.step h24 nn
  have hT24 := hT23.hot F23.act h24
  have hwd24 := hwd23.step h24 nwd nd
  have hra24 := hra23.hot F23.act h24
  have hr24 := hr23.hot h24
  have hf24 := hf23.hot F23 cf h24
  have hg24 := hg23.hot F23.act h24
  refine wpAny_execs_cons (c_s23 (ex := ex) X F24 R1 (by kernel_rfl) (by kernel_rfl) (by kernel_rfl) (by kernel_rfl) hg24 hM hMl hMk hgm hf24 cf hr24 ht hsz fun s25 F25 h25 => ?_)
  have hn25 := hn24.step h25 nn
  have hT25 := hT24.hot F24.act h25
  have hwd25 := hwd24.step h25 nwd nd
  have hra25 := hra24.hot F24.act h25
  have hr25 := hr24.hot h25
  have hg25 := hg24.hot F24.act h25
  refine wpAny_execs_cons (c_s24 (ex := ex) X TB F25 R1 (by kernel_rfl) hg25 hr25 ht hsz fun fi s26 F26 h26 hfi => ?_)
  have hn26 := hn25.step h26 nn
  have hT26 := hT25.hot F25.act h26
  have hwd26 := hwd25.step h26 nwd nd
  have hra26 := hra25.hot F25.act h26
  have hr26 := hr25.hot h26
  refine wpAny_execs_cons (c_s25 (ex := ex) X TB F26 R1 (by kernel_rfl) (by kernel_rfl) (by kernel_rfl) (by kernel_rfl) (by kernel_rfl) hra26 hfi hT26 hr26 ht hsz hwd26 fun s27 F27 h27 => ?_)
  have hn27 := hn26.step h27 nn
  have hra27 := hra26.hot F26.act h27
  have hr27 := hr26.hot h27
  by_cases hk : kd = 1
  · rw [show decide (kd = 1) = true from decide_eq_true hk] at ht
    exact law_tail (back := back) (ex := ex) (na := na) (knd := intKind prog0 w) kinded_int X TB F27 R1 (by kernel_rfl) (by kernel_rfl) (by kernel_rfl) (by kernel_rfl) hra27 hr27 ht hsz hn27 nn fun s' st => k s' st
  · rw [show decide (kd = 1) = false from decide_eq_false hk] at ht
    exact law_tail (back := back) (ex := ex) (na := na) (knd := strKind prog0 w) kinded_str X TB F27 R1 (by kernel_rfl) (by kernel_rfl) (by kernel_rfl) (by kernel_rfl) hra27 hr27 ht hsz hn27 nn fun s' st => k s' st
end
end Mine
end
section
open PySem PySem.W PySem.W.X PyProof.Rows
namespace Mine
def incB : List Nat → Bool
  | a :: b :: r => Nat.blt a b && incB (b :: r)
  | _ => true
theorem inc_gt : ∀ (a : Nat) (r : List Nat), incB (a :: r) = true → ∀ b ∈ r, a < b
  | a, [], _, b, hb => nomatch hb
  | a, c :: r, h, b, hb => by
    unfold incB at h
    rw [Bool.and_eq_true] at h
    have h1 : a < c := Nat.blt_eq.mp h.1
    rcases List.mem_cons.mp hb with rfl | hb
    · exact h1
    · exact Nat.lt_trans h1 (inc_gt c r h.2 b hb)
theorem inc_tail : ∀ (a : Nat) (r : List Nat), incB (a :: r) = true → incB r = true
  | a, [], _ => rfl
  | a, c :: r, h => by
    unfold incB at h
    rw [Bool.and_eq_true] at h
    exact h.2
theorem lookup_inc : ∀ (K : Frag), incB (K.map (·.1)) = true → ∀ (a : Addr) (o : Obj), (a, o) ∈ K → K.lookup a = some o
  | [], _, a, o, h => nomatch h
  | (b, x) :: r, hi, a, o, h => by
    rw [List.lookup_cons]
    rcases List.mem_cons.mp h with e | h
    · cases e; simp
    · have hi : incB (b :: r.map (·.1)) = true := hi
      have hlt := inc_gt b (r.map (·.1)) hi a (List.mem_map.mpr ⟨(a, o), h, rfl⟩)
      have hne : (a == b) = false := beq_eq_false_iff_ne.mpr (Nat.ne_of_gt hlt)
      rw [hne]
      exact lookup_inc r (inc_tail _ _ hi) a o h
theorem heap_inc (P : Params) : incB ((Mine.hd.heap_376 P).map (·.1)) = true := by kernel_rfl
theorem kp_in {P : Params} {h : Heap} (KX : (Mine.hd.heap_376 P).In h) : (KP P).In h := fun a o e =>
  KX a o (lookup_inc _ (heap_inc P) a o (List.mem_filter.mp (mem_of_lookup' e)).1)
theorem tabs_empty {P : Params} {h : Heap} (KX : (Mine.hd.heap_376 P).In h) : ∀ p ∈ spots, h.get? p.tab = some (tabObj #[]) := by
  have e1 : h.get? 239 = some (tabObj #[]) := KX _ _ (by kernel_rfl)
  have e2 : h.get? 247 = some (tabObj #[]) := KX _ _ (by kernel_rfl)
  have e3 : h.get? 258 = some (tabObj #[]) := KX _ _ (by kernel_rfl)
  have e4 : h.get? 402 = some (tabObj #[]) := KX _ _ (by kernel_rfl)
  have e5 : h.get? 282 = some (tabObj #[]) := KX _ _ (by kernel_rfl)
  intro p hp
  unfold spots at hp
  simp only [List.mem_cons, List.not_mem_nil, or_false] at hp
  rcases hp with rfl | rfl | rfl | rfl | rfl | rfl | rfl | rfl
  · exact e1
  · exact e2
  · exact e3
  · exact e4
  · exact e4
  · exact e4
  · exact e4
  · exact e5
theorem tabs_ok {P : Params} {h : Heap} (KX : (Mine.hd.heap_376 P).In h) : TabsOk h := fun p hp => ⟨#[], tabs_empty KX p hp, trivial, fun cv e => nomatch e⟩
theorem code_tab {P : Params} {s : Shared} (X : (KP P).In s.heap) : ∀ p ∈ spots, isCodeTable s.heap p.tab := by
  have go : ∀ (c T : Addr), CodeHd s.heap c T → isCodeTable s.heap T := fun c T ⟨o, vs, _, _, _, _, _, _, _, e, cl, d, k, _⟩ => ⟨c, o, vs, e, cl, d, k⟩
  intro p hp
  unfold spots at hp
  simp only [List.mem_cons, List.not_mem_nil, or_false] at hp
  rcases hp with rfl | rfl | rfl | rfl | rfl | rfl | rfl | rfl
  · exact go 243 239 (hd_K X)
  · exact go 249 247 (hd_K X)
  · exact go 262 258 (hd_K X)
  · exact go 404 402 (hd_K X)
  · exact go 404 402 (hd_K X)
  · exact go 404 402 (hd_K X)
  · exact go 404 402 (hd_K X)
  · exact go 286 282 (hd_K X)
theorem well_ints {P : Params} {h : Heap} : ∀ (vs : List Value) (ns : List Int) (xs : List WData), WellAll P h vs xs → xs = ns.map WData.int → vs.length = ns.length ∧ ∀ v ∈ vs, ∃ n t, v = Value.int n t
  | _, _, _, .nil, e => by
    have := congrArg List.length e
    simp at this
    exact ⟨by simp; omega, by simp⟩
  | _, ns, _, .cons (v := v) (vs := vs) (d := d) (ds := ds) w ws, e => by
    cases ns with
    | nil => cases e
    | cons n ns =>
      rw [List.map_cons, List.cons.injEq] at e
      obtain ⟨e1, e2⟩ := e
      subst e1
      obtain ⟨l, i⟩ := well_ints _ ns _ ws e2
      refine ⟨by simp [l], fun u hu => ?_⟩
      rcases List.mem_cons.mp hu with rfl | hu
      · cases w with
        | int i t => exact ⟨_, _, rfl⟩
      · exact i u hu
theorem ofPys_ints : ∀ ns : List Int, ofPys (ns.map PyData.int) = ns.map WData.int
  | [] => rfl
  | n :: ns => by
    show ofPy (.int n) :: ofPys (ns.map PyData.int) = _
    rw [ofPys_ints ns]; rfl
theorem c_top {w : World} {s₀ s₁ : Shared} {ns : List Int} (KX : (Mine.hd.heap_376 w.params).In s₁.heap) (hg : s₁.gens = #[]) (w1 : Well w.params s₁.heap (.ref 406) (ofPy (PyData.list (ns.map PyData.int)))) (hz : ns.length ≤ 63) :
    wpAny (model PySem.Challenge.rw_bw0018_01.row.prog w) callerA (call (.ref 405) [.ref 406]) (fun v s' => GoodWG PySem.Challenge.rw_bw0018_01.row.claim (classAt s₀.heap) (ExcName.means s₀.heap) [ofPy (PyData.list (ns.map PyData.int))] s₁ (.ok (.ret v)) s')
      (fun e s' => GoodWG PySem.Challenge.rw_bw0018_01.row.claim (classAt s₀.heap) (ExcName.means s₀.heap) [ofPy (PyData.list (ns.map PyData.int))] s₁ (.error e) s') s₁ := by
  have X := kp_in KX
  have TB := tabs_ok KX
  have w2 : Well w.params s₁.heap (.ref 406) (WData.list (ofPys (ns.map PyData.int))) := w1
  cases w2 with
  | list e ws =>
    rename_i vs
    obtain ⟨hl, hi⟩ := well_ints vs ns _ ws (ofPys_ints ns)
    refine noE (c_law (sc := 406) (xs := vs) ⟨rfl, by decide, by decide⟩ X TB ⟨0, e⟩ (by omega) hi fun s' st => ?_)
    refine ⟨.inl ⟨.bool true, .bool true, [], rfl, fun _ => by kernel_rfl, .bool true, by kernel_rfl, fun _ => ⟨List.nodup_nil, fun a h => nomatch h⟩⟩, ⟨fun b o eb => ?_, fun b o eb => st.there b o eb id⟩, st.os, fun y hy => ?_⟩
    · by_cases hs : spotTab b
      · obtain ⟨p, hp, rfl⟩ := hs
        have e0 := tabs_empty KX p hp
        rw [eb] at e0
        injection e0 with e0
        subst e0
        obtain ⟨ps, e1, _⟩ := st.tab TB p hp
        exact .inr (.inl ⟨code_tab X p hp, rfl, #[], ps, rfl, by rw [e1, Array.empty_append]⟩)
      · exact .inl (st.tabs b o eb hs id)
    · obtain ⟨i, hi, e⟩ := Array.mem_iff_getElem.mp hy
      exact st.gens.2.2 i y (by rw [hg]; exact Nat.zero_le _) (by rw [← e]; simp [hi])
end Mine
end
open PySem PySem.W PySem.W.X PyProof.Rows
theorem PySem.Challenge.cw_bw0018_01_holds : PySem.Challenge.rw_bw0018_01.Holds := by
  refine Mine.hd ?_
  k_fill
  intro w s₀ s₁ mg mb G y fa o pm cd doc dV kV ho hd hcd hD hmg hg args vals as L hpre hlay hrd hwl hlo
  z_open y L KX ZH ZN ZT
  refine Ground.open G ?_
  intro T B D TE TW
  wrow_args hpre hlay hrd hwl hlo
  obtain ⟨hat, hsz⟩ := script_at L
  have htk := script_toks L ZT
  rw [ZN] at hat hsz
  subst hat
  x_fa T KX hmg
  all_lens
  exact Mine.c_top KX hg (by assumption) (by omega)
