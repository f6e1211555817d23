import PyProof.Rows.All
import Wide.All
import OpenK.AllK
import Wide.FinOn
import Lean
import PySem.Challenge.RW_mj0236_01
set_option Elab.async false
set_option maxRecDepth 100000
set_option maxHeartbeats 8000000
set_option linter.all false
namespace Mine
section
open PySem PySem.W PyProof.Rows
set_option synthInstance.maxSize 1 in
open_top hd for PySem.Challenge.rw_mj0236_01
end
section
open PySem PySem.W PyProof.Rows
/-! ### the state: what a frame knows -/
abbrev Own := Addr → Option (Obj → Prop)
abbrev Frz := Addr → Option (Obj → Prop)
/-- the same but for its slots -/
def UpS (o o' : Obj) : Prop := o'.data = o.data ∧ o'.cls = o.cls ∧ o'.dict = o.dict
theorem ne_sn {α β : Type} {f : α → Option β} {a b : α} {P : β} (h : f a = some P) (h' : f b = none) : a ≠ b := fun c => by rw [c, h'] at h; cases h
theorem ne_ns {α β : Type} {f : α → Option β} {a b : α} {P : β} (h : f a = none) (h' : f b = some P) : a ≠ b := fun c => by rw [c, h'] at h; cases h
noncomputable def upd (σ : Own) (a : Addr) (P : Obj → Prop) : Own := fun x => if x = a then some P else σ x
theorem upd_self {σ : Own} {a : Addr} {P : Obj → Prop} : upd σ a P a = some P := if_pos rfl
theorem upd_ne {σ : Own} {a b : Addr} {P : Obj → Prop} (h : b ≠ a) : upd σ a P b = σ b := if_neg h
theorem upd_upd {σ : Own} {a : Addr} {P P' : Obj → Prop} : upd (upd σ a P) a P' = upd σ a P' := by
  funext x; unfold upd; by_cases h : x = a <;> simp [h]
theorem upd_comm {σ : Own} {a b : Addr} {P P' : Obj → Prop} (h : a ≠ b) : upd (upd σ a P) b P' = upd (upd σ b P') a P := by
  funext x; unfold upd; by_cases h1 : x = a <;> by_cases h2 : x = b <;> simp_all

inductive Vars (h : Heap) (m : Str → Option Value) : List (Str × Option Addr) → List (Option Value) → Prop where
  | nil : Vars h m [] []
  | loc {x : Str} {v : Option Value} {N l} : (∀ u, v = some u → m x = some u) → Vars h m N l → Vars h m ((x, none) :: N) (v :: l)
  | cell {x : Str} {c : Addr} {v : Option Value} {N l} : (∃ v₀, h.IsCell c v₀ ∧ ∀ u, v = some u → v₀ = some u) → Vars h m N l → Vars h m ((x, some c) :: N) (v :: l)

inductive GetV : List (Str × Option Addr) → List (Option Value) → Str → Option Addr → Value → Prop where
  | head {x k v N l} : GetV ((x, k) :: N) (some v :: l) x k v
  | tail {x k v N l q u} : GetV N l x k v → GetV (q :: N) (u :: l) x k v
inductive SetV : List (Str × Option Addr) → List (Option Value) → Str → Option Addr → Option Value → List (Option Value) → Prop where
  | head {x k v N u l} : SetV ((x, k) :: N) (u :: l) x k v (v :: l)
  | tail {x k v N l l' q u} : SetV N l x k v l' → SetV (q :: N) (u :: l) x k v (u :: l')
/-- less is known -/
inductive Less : List (Option Value) → List (Option Value) → Prop where
  | nil : Less [] []
  | keep {v l l'} : Less l l' → Less (v :: l) (v :: l')
  | drop {v l l'} : Less l l' → Less (v :: l) (none :: l')
theorem Less.rfl' : ∀ {l}, Less l l
  | [] => .nil
  | _ :: _ => .keep Less.rfl'

theorem GetV.mem {N l x k v} (g : GetV N l x k v) : (x, k) ∈ N := by
  induction g with
  | head => exact .head _
  | tail _ ih => exact .tail _ ih
theorem SetV.mem {N l x k v l'} (g : SetV N l x k v l') : (x, k) ∈ N := by
  induction g with
  | head => exact .head _
  | tail _ ih => exact .tail _ ih
theorem Vars.get_loc {h m N l x v} (V : Vars h m N l) (g : GetV N l x none v) : m x = some v := by
  generalize hk : (none : Option Addr) = k at g
  induction g with
  | head => subst hk; cases V with | loc a _ => exact a _ rfl
  | tail _ ih => cases V with | loc _ r => exact ih r hk | cell _ r => exact ih r hk
theorem Vars.get_cell {h m N l x c v} (V : Vars h m N l) (g : GetV N l x (some c) v) : h.IsCell c (some v) := by
  generalize hk : some c = k at g
  induction g with
  | head => subst hk; cases V with | cell a _ => obtain ⟨v₀, q, r⟩ := a; rw [← r _ rfl]; exact q
  | tail _ ih => cases V with | loc _ r => exact ih r hk | cell _ r => exact ih r hk
theorem Vars.has_cell {h m N l x c} (V : Vars h m N l) (g : (x, some c) ∈ N) : ∃ v, h.IsCell c v := by
  induction V with
  | nil => cases g
  | loc _ _ ih => cases g with | tail _ g => exact ih g
  | cell a _ ih => cases g with
    | head => obtain ⟨v, q, _⟩ := a; exact ⟨v, q⟩
    | tail _ g => exact ih g
theorem Vars.less {h m N l l'} (V : Vars h m N l) (e : Less l l') : Vars h m N l' := by
  induction e generalizing N with
  | nil => exact V
  | keep _ ih => cases V with | loc a r => exact .loc a (ih r) | cell a r => exact .cell a (ih r)
  | drop _ ih => cases V with
    | loc a r => exact .loc (fun _ e => by cases e) (ih r)
    | cell a r => exact .cell (let ⟨v, q, _⟩ := a; ⟨v, q, fun _ e => by cases e⟩) (ih r)
theorem Vars.heap {h h' m N l} (V : Vars h m N l) (hc : ∀ x c v, (x, some c) ∈ N → h.IsCell c v → h'.IsCell c v) : Vars h' m N l := by
  induction V with
  | nil => exact .nil
  | loc a _ ih => exact .loc a (ih fun x c v hm => hc x c v (.tail _ hm))
  | @cell x c _ _ _ a _ ih => exact .cell (let ⟨v, q, r⟩ := a; ⟨v, hc x c v (.head _) q, r⟩) (ih fun x c v hm => hc x c v (.tail _ hm))
theorem Vars.set_loc_off {h m N l x v} (V : Vars h m N l) (hn : ∀ k, (x, k) ∈ N → False) : Vars h (fun y => if y = x then some v else m y) N l := by
  induction V with
  | nil => exact .nil
  | @loc y w N l a r ih => exact .loc (fun u e => by have : y ≠ x := fun q => hn none (q ▸ .head _); simp [this, a u e]) (ih fun k hm => hn k (.tail _ hm))
  | cell a r ih => exact .cell a (ih fun k hm => hn k (.tail _ hm))
theorem Vars.set_loc {h m N l x v l'} (V : Vars h m N l) (g : SetV N l x none (some v) l') (nd : (N.map (·.1)).Nodup) : Vars h (fun y => if y = x then some v else m y) N l' := by
  generalize hk : (none : Option Addr) = k at g
  generalize hv : some v = v' at g
  induction g with
  | head =>
    subst hk
    subst hv
    cases V with
    | loc a r => exact .loc (fun u e => by cases e; simp) (r.set_loc_off fun k hm => (List.nodup_cons.mp nd).1 (List.mem_map.mpr ⟨_, hm, rfl⟩))
  | @tail x' k' v' N l l' q u g ih =>
    have nd' := List.nodup_cons.mp nd
    cases V with
    | @loc y _ _ _ a r => exact .loc (fun u e => by have : y ≠ x' := fun q => nd'.1 (List.mem_map.mpr ⟨_, g.mem, q.symm⟩); simp [this, a u e]) (ih r nd'.2 hk hv)
    | cell a r => exact .cell a (ih r nd'.2 hk hv)
theorem Vars.set_cell {h h' m N l x c v l'} (V : Vars h m N l) (g : SetV N l x (some c) (some v) l') (hc : h'.IsCell c (some v)) (ho : ∀ d w, d ≠ c → h.IsCell d w → h'.IsCell d w)
    (nd : (N.filterMap (·.2)).Nodup) : Vars h' m N l' := by
  generalize hk : some c = k at g
  generalize hv : some v = v' at g
  induction g with
  | head =>
    subst hk
    subst hv
    cases V with
    | cell a r => exact .cell ⟨_, hc, fun _ e => e⟩ (r.heap fun y d w hm q => ho d w (fun e => (List.nodup_cons.mp nd).1 (e ▸ List.mem_filterMap.mpr ⟨_, hm, rfl⟩)) q)
  | @tail x' k' v' N l l' q u g ih =>
    cases V with
    | @loc y _ _ _ a r => exact .loc a (ih r nd hk hv)
    | @cell y d _ _ _ a r =>
      have nd' := List.nodup_cons.mp nd
      refine .cell (let ⟨w, q, e⟩ := a; ⟨w, ho d w (fun e => nd'.1 ?_) q, e⟩) (ih r nd'.2 hk hv)
      exact List.mem_filterMap.mpr ⟨_, g.mem, by rw [← hk, e]⟩

structure St (B : Heap) (L : Addr) (N : List (Str × Option Addr)) (l : List (Option Value)) (σ : Own) (φ : Frz) (s₀ s : Shared) : Prop where
  base : B.StaysIn s.heap
  above : B.objs.size ≤ L
  vars : ∃ m, s.heap.Ns L m ∧ Vars s.heap m N l
  offσ : σ L = none
  offφ : φ L = none
  cells : ∀ x c, (x, some c) ∈ N → c ≠ L ∧ B.get? c = none ∧ σ c = none ∧ φ c = none
  own : ∀ a P, σ a = some P → ∃ o, s.heap.get? a = some o ∧ P o
  ownB : ∀ a, σ a ≠ none → B.get? a = none
  frm : ∀ a P, φ a = some P → ∃ o, s.heap.get? a = some o ∧ P o
  apart : ∀ a, σ a ≠ none → φ a = none
  gens : s.gens = s₀.gens
  drawn : s.drawn = s₀.drawn
  os : s.os = s₀.os

/-- all but one stands -/
def KeepBut (a : Addr) (h h' : Heap) : Prop := ∀ b o, b ≠ a → h.get? b = some o → h'.get? b = some o
theorem KeepBut.of {a : Addr} {h h' : Heap} (hs : Heap.SameBut a h h') : KeepBut a h h' := fun b _ hb e => (hs.2 b hb).trans e

variable {B : Heap} {L : Addr} {N : List (Str × Option Addr)} {l : List (Option Value)} {σ : Own} {φ : Frz} {s₀ s : Shared}

theorem St.offB (S : St B L N l σ φ s₀ s) : B.get? L = none := by
  cases q : B.get? L with
  | none => rfl
  | some o => exact absurd (Heap.lt_size q) (Nat.not_lt.mpr S.above)
theorem St.toks (S : St B L N l σ φ s₀ s) (t : Nat) : St B L N l σ φ s₀ { s with toks := t } := { S with }
theorem St.less {l' : List (Option Value)} (S : St B L N l σ φ s₀ s) (e : Less l l') : St B L N l' σ φ s₀ s :=
  { S with vars := let ⟨m, n, v⟩ := S.vars; ⟨m, n, v.less e⟩ }
theorem St.get (S : St B L N l σ φ s₀ s) {a : Addr} {P : Obj → Prop} (h : σ a = some P) : ∃ o, s.heap.get? a = some o ∧ P o := S.own a P h
/-- an owned object is changed, all others stand -/
theorem St.change (S : St B L N l σ φ s₀ s) {a : Addr} {P₀ P : Obj → Prop} {h' : Heap} (h : σ a = some P₀) (hs : KeepBut a s.heap h') (hp : ∃ o, h'.get? a = some o ∧ P o) (t : Nat) :
    St B L N l (upd σ a P) φ s₀ { s with heap := h', toks := t } := by
  have hne : σ a ≠ none := by rw [h]; exact fun e => by cases e
  have hLa : L ≠ a := (by first | exact ne_sn h S.offσ | exact ne_ns h S.offσ | exact ne_sn S.offσ h | exact ne_ns S.offσ h)
  have up : ∀ b, b ≠ a → upd σ a P b = σ b := fun b hb => upd_ne hb
  refine { base := fun b o e => hs b o (fun q => ?_) (S.base b o e), above := S.above, vars := ?_, offσ := (up L hLa).trans S.offσ, offφ := S.offφ, cells := ?_, own := ?_, ownB := ?_, frm := ?_, apart := ?_, gens := S.gens, drawn := S.drawn, os := S.os }
  · subst q; rw [S.ownB _ hne] at e; cases e
  · obtain ⟨m, hn, hv⟩ := S.vars
    obtain ⟨o, es, ep, ho, r⟩ := hn
    refine ⟨m, ⟨o, es, ep, hs L o hLa ho, r⟩, hv.heap fun x c v hm q => ?_⟩
    obtain ⟨oc, hoc, hdc⟩ := q
    refine ⟨oc, hs c oc (fun e => ?_) hoc, hdc⟩
    have := (S.cells x c hm).2.2.1
    rw [e, h] at this; cases this
  · intro x c hm
    obtain ⟨h1, h2, h3, h4⟩ := S.cells x c hm
    refine ⟨h1, h2, (up c fun e => ?_).trans h3, h4⟩
    rw [e, h] at h3; cases h3
  · intro b Q hb
    by_cases e : b = a
    · subst e; rw [upd_self] at hb; cases hb; exact hp
    · rw [up b e] at hb
      obtain ⟨o, ho, q⟩ := S.own b Q hb
      exact ⟨o, hs b o e ho, q⟩
  · intro b hb
    by_cases e : b = a
    · subst e; exact S.ownB _ hne
    · rw [up b e] at hb; exact S.ownB b hb
  · intro b o hb
    obtain ⟨ob, hob, p⟩ := S.frm b o hb
    exact ⟨ob, hs b ob ((by first | exact ne_sn hb (S.apart _ hne) | exact ne_ns hb (S.apart _ hne) | exact ne_sn (S.apart _ hne) hb | exact ne_ns (S.apart _ hne) hb)) hob, p⟩
  · intro b hb
    by_cases e : b = a
    · subst e; exact S.apart _ hne
    · rw [up b e] at hb; exact S.apart b hb
theorem St.free (S : St B L N l σ φ s₀ s) {a : Addr} (ha : s.heap.get? a = none) : σ a = none := by
  cases q : σ a with
  | none => rfl
  | some P => obtain ⟨o, ho, _⟩ := S.own a P q; rw [ha] at ho; cases ho
theorem St.freeφ (S : St B L N l σ φ s₀ s) {a : Addr} (ha : s.heap.get? a = none) : φ a = none := by
  cases q : φ a with
  | none => rfl
  | some P => obtain ⟨o, ho, _⟩ := S.frm a P q; rw [ho] at ha; cases ha
theorem St.freeB (S : St B L N l σ φ s₀ s) {a : Addr} (ha : s.heap.get? a = none) : B.get? a = none := by
  cases q : B.get? a with
  | none => rfl
  | some P => rw [S.base a P q] at ha; cases ha
theorem St.L_in (S : St B L N l σ φ s₀ s) : ∃ o, s.heap.get? L = some o := by
  obtain ⟨m, ⟨o, _, _, h, _⟩, _⟩ := S.vars; exact ⟨o, h⟩
/-- more may have been made -/
theorem St.grow (S : St B L N l σ φ s₀ s) {h' : Heap} (hs : ∀ b o, s.heap.get? b = some o → h'.get? b = some o) (t : Nat) : St B L N l σ φ s₀ { s with heap := h', toks := t } := by
  obtain ⟨m, hn, hv⟩ := S.vars
  exact { base := fun b o e => hs b o (S.base b o e), above := S.above, vars := ⟨m, hn.keeps hs, hv.heap fun _ _ _ _ q => q.keeps hs⟩, offσ := S.offσ, offφ := S.offφ, cells := S.cells
          own := fun a P e => let ⟨o, ho, q⟩ := S.own a P e; ⟨o, hs a o ho, q⟩, ownB := S.ownB, frm := fun a P e => let ⟨o, ho, q⟩ := S.frm a P e; ⟨o, hs a o ho, q⟩, apart := S.apart, gens := S.gens, drawn := S.drawn, os := S.os }
/-- an object that is there and not bespoken is taken in -/
theorem St.take (S : St B L N l σ φ s₀ s) {a : Addr} {P : Obj → Prop} (hp : ∃ o, s.heap.get? a = some o ∧ P o) (hL : a ≠ L) (hc : ∀ x c, (x, some c) ∈ N → c ≠ a) (hB : B.get? a = none) (hφ : φ a = none) :
    St B L N l (upd σ a P) φ s₀ s := by
  refine { S with offσ := (upd_ne (Ne.symm hL)).trans S.offσ, cells := ?_, own := ?_, ownB := ?_, apart := ?_ }
  · intro x c hm
    obtain ⟨h1, h2, h3, h4⟩ := S.cells x c hm
    exact ⟨h1, h2, (upd_ne (hc x c hm)).trans h3, h4⟩
  · intro b Q hb
    by_cases e : b = a
    · subst e; rw [upd_self] at hb; cases hb; exact hp
    · rw [upd_ne e] at hb; exact S.own b Q hb
  · intro b hb
    by_cases e : b = a
    · subst e; exact hB
    · rw [upd_ne e] at hb; exact S.ownB b hb
  · intro b hb
    by_cases e : b = a
    · subst e; exact hφ
    · rw [upd_ne e] at hb; exact S.apart b hb
/-- a new object is made and owned -/
theorem St.made (S : St B L N l σ φ s₀ s) {a : Addr} {P : Obj → Prop} {h' : Heap} (ha : s.heap.get? a = none) (hs : ∀ b o, s.heap.get? b = some o → h'.get? b = some o) (hp : ∃ o, h'.get? a = some o ∧ P o) (t : Nat) :
    St B L N l (upd σ a P) φ s₀ { s with heap := h', toks := t } := by
  refine (S.grow hs t).take hp (fun e => ?_) (fun x c hm e => ?_) (S.freeB ha) (S.freeφ ha)
  · subst e; obtain ⟨o, ho⟩ := S.L_in; rw [ha] at ho; cases ho
  · subst e
    obtain ⟨m, _, hv⟩ := S.vars
    obtain ⟨v, o, ho, _⟩ := hv.has_cell hm
    rw [ha] at ho; cases ho
theorem St.alloc (S : St B L N l σ φ s₀ s) {o : Obj} {P : Obj → Prop} (hf : o.isFreed = false) (hp : P o) (t : Nat) :
    St B L N l (upd σ s.heap.objs.size P) φ s₀ { s with heap := s.heap.push o, toks := t } := by
  refine S.made ?_ (fun b o' e => Heap.get?_push_of_some _ e) ⟨o, Heap.get?_push_size _ hf, hp⟩ t
  cases q : s.heap.get? s.heap.objs.size with
  | none => rfl
  | some o => exact absurd (Heap.lt_size q) (Nat.lt_irrefl _)
theorem size_none {h : Heap} : h.get? h.objs.size = none := by
  cases q : h.get? h.objs.size with
  | none => rfl
  | some o => exact absurd (Heap.lt_size q) (Nat.lt_irrefl _)
theorem St.fresh (S : St B L N l σ φ s₀ s) : σ s.heap.objs.size = none := S.free size_none
/-- what is owned is forgotten -/
theorem St.forget (S : St B L N l σ φ s₀ s) {σ' : Own} (h : ∀ a P, σ' a = some P → σ a = some P) : St B L N l σ' φ s₀ s := by
  have hn : ∀ a, σ a = none → σ' a = none := fun a e => by
    cases q : σ' a with
    | none => rfl
    | some P => rw [h a P q] at e; cases e
  have hs : ∀ a, σ' a ≠ none → σ a ≠ none := fun a q e => q (hn a e)
  exact { S with offσ := hn L S.offσ, cells := fun x c hm => let ⟨h1, h2, h3, h4⟩ := S.cells x c hm; ⟨h1, h2, hn c h3, h4⟩, own := fun a P e => S.own a P (h a P e), ownB := fun a e => S.ownB a (hs a e), apart := fun a e => S.apart a (hs a e) }
/-- another word of what an owned object is -/
theorem St.say (S : St B L N l σ φ s₀ s) {a : Addr} {P P' : Obj → Prop} (h : σ a = some P) (hp : ∀ o, s.heap.get? a = some o → P o → P' o) : St B L N l (upd σ a P') φ s₀ s := by
  obtain ⟨o, ho, q⟩ := S.own a P h
  have := S.change (P := P') (h' := s.heap) h (fun _ _ _ e => e) ⟨o, ho, hp o ho q⟩ s.toks
  exact this
/-- the frame and the ledger of the library -/
theorem St.fr (S : St B L N l σ φ s₀ s) : ∃ m, Fr B L s.heap m ∧ Vars s.heap m N l := let ⟨m, hn, hv⟩ := S.vars; ⟨m, ⟨hn, S.base, S.above⟩, hv⟩
noncomputable def rest (B : Heap) (L : Addr) (h : Heap) : List (Addr × Obj) := (List.range h.objs.size).filterMap fun b => if b = L ∨ (B.get? b).isSome then none else (h.get? b).map (b, ·)
theorem mem_rest {h : Heap} {p : Addr × Obj} : p ∈ rest B L h ↔ h.get? p.1 = some p.2 ∧ p.1 ≠ L ∧ B.get? p.1 = none := by
  unfold rest
  rw [List.mem_filterMap]
  constructor
  · rintro ⟨b, hb, e⟩
    split at e
    · cases e
    · rename_i c
      obtain ⟨o, ho, rfl⟩ := Option.map_eq_some_iff.mp e
      refine ⟨ho, fun q => c (.inl q), ?_⟩
      cases q : B.get? b with
      | none => rfl
      | some _ => exact absurd (.inr (by rw [q]; rfl)) c
  · rintro ⟨h1, h2, h3⟩
    refine ⟨p.1, List.mem_range.mpr (Heap.lt_size h1), ?_⟩
    rw [if_neg (by rintro (c | c); exact h2 c; rw [h3] at c; cases c), h1]; rfl
theorem news_rest {h : Heap} : News B L h (rest B L h) := fun _ hp => mem_rest.mp hp
theorem upd_exists {D : Addr} {o o' : Obj} : ∀ {nw : List (Addr × Obj)}, (D, o) ∈ nw → (nw.map (·.1)).Nodup → ∃ nw', Upd D o o' nw nw' ∧ (D, o') ∈ nw' ∧ ∀ p ∈ nw, p.1 ≠ D → p ∈ nw'
  | [], hm, _ => nomatch hm
  | p :: r, hm, hn => by
    rw [List.map_cons, List.nodup_cons] at hn
    by_cases hp : p.1 = D
    · have : p = (D, o) := by
        rcases List.mem_cons.mp hm with h | h
        · exact h.symm
        · exact absurd (List.mem_map.mpr ⟨_, h, hp.symm⟩) hn.1
      subst this
      refine ⟨(D, o') :: r, .head fun q hq e => hn.1 (List.mem_map.mpr ⟨q, hq, e⟩), .head _, fun q hq hne => ?_⟩
      rcases List.mem_cons.mp hq with h | h
      · subst h; exact absurd rfl hne
      · exact .tail _ h
    · have hm' : (D, o) ∈ r := by
        rcases List.mem_cons.mp hm with h | h
        · exact absurd (by rw [← h]) hp
        · exact h
      obtain ⟨nw', U, h1, h2⟩ := upd_exists (o' := o') hm' hn.2
      refine ⟨p :: nw', .tail hp U, .tail _ h1, fun q hq hne => ?_⟩
      rcases List.mem_cons.mp hq with h | h
      · subst h; exact .head _
      · exact .tail _ (h2 q h hne)
theorem rest_nodup {h : Heap} : ((rest B L h).map (·.1)).Nodup := by
  unfold rest
  rw [List.map_filterMap]
  refine List.Pairwise.filterMap _ (R := (· ≠ ·)) ?_ List.nodup_range
  intro a a' hne b hb b' hb'
  have key : ∀ x y, ((if x = L ∨ (B.get? x).isSome = true then none else (h.get? x).map (x, ·)).map (·.1) : Option Addr) = some y → x = y := by
    intro x y e
    split at e
    · cases e
    · obtain ⟨p, hp, rfl⟩ := Option.map_eq_some_iff.mp e
      obtain ⟨o, _, rfl⟩ := Option.map_eq_some_iff.mp hp
      rfl
  have e1 := key a b hb
  have e2 := key a' b' hb'
  rw [← e1, ← e2]; exact hne
/-- a rule of the library that changes one object -/
theorem St.updN (S : St B L N l σ φ s₀ s) {D : Addr} {P₀ : Obj → Prop} {o : Obj} (h : σ D = some P₀) (ho : s.heap.get? D = some o) (o' : Obj) :
    ∃ nw', Upd D o o' (rest B L s.heap) nw' ∧ ∀ h', (∃ m, Fr B L h' m) → News B L h' nw' → h'.get? D = some o' ∧ ∀ b o, b ≠ D → b ≠ L → s.heap.get? b = some o → h'.get? b = some o := by
  have hne : σ D ≠ none := by rw [h]; exact fun e => by cases e
  have hL : D ≠ L := (by first | exact ne_sn h S.offσ | exact ne_ns h S.offσ | exact ne_sn S.offσ h | exact ne_ns S.offσ h)
  obtain ⟨nw', U, h1, h2⟩ := upd_exists (nw := rest B L s.heap) (o' := o') (mem_rest.mpr ⟨ho, hL, S.ownB D hne⟩) rest_nodup
  refine ⟨nw', U, fun h' ⟨m, F⟩ N' => ⟨(N' _ h1).1, fun b ob hb hbL e => ?_⟩⟩
  cases q : B.get? b with
  | none => exact (N' _ (h2 (b, ob) (mem_rest.mpr ⟨e, hbL, q⟩) hb)).1
  | some o₂ =>
    have := S.base b o₂ q
    rw [e] at this; cases this
    exact F.keep b _ q
/-- the frame's own object may be another one: what it says stands -/
theorem St.change' (S : St B L N l σ φ s₀ s) {a : Addr} {P₀ P : Obj → Prop} {h' : Heap} {m : Str → Option Value} (h : σ a = some P₀) (hV : Vars s.heap m N l) (F : Fr B L h' m)
    (hs : ∀ b o, b ≠ a → b ≠ L → s.heap.get? b = some o → h'.get? b = some o) (hp : ∃ o, h'.get? a = some o ∧ P o) (t : Nat) :
    St B L N l (Mine.upd σ a P) φ s₀ { s with heap := h', toks := t } := by
  have hne : σ a ≠ none := by rw [h]; exact fun e => by cases e
  have up : ∀ b, b ≠ a → Mine.upd σ a P b = σ b := fun b hb => upd_ne hb
  have hLa : L ≠ a := (by first | exact ne_sn h S.offσ | exact ne_ns h S.offσ | exact ne_sn S.offσ h | exact ne_ns S.offσ h)
  refine { base := F.keep, above := S.above, vars := ⟨m, F.ns, hV.heap fun x c v hm q => ?_⟩, offσ := (up L hLa).trans S.offσ, offφ := S.offφ, cells := ?_, own := ?_, ownB := ?_, frm := ?_, apart := ?_, gens := S.gens, drawn := S.drawn, os := S.os }
  · obtain ⟨oc, hoc, hdc⟩ := q
    refine ⟨oc, hs c oc (fun e => ?_) (S.cells x c hm).1 hoc, hdc⟩
    have := (S.cells x c hm).2.2.1
    rw [e, h] at this; cases this
  · intro x c hm
    obtain ⟨h1, h2, h3, h4⟩ := S.cells x c hm
    refine ⟨h1, h2, (up c fun e => ?_).trans h3, h4⟩
    rw [e, h] at h3; cases h3
  · intro b Q hb
    by_cases e : b = a
    · subst e; rw [upd_self] at hb; cases hb; exact hp
    · rw [up b e] at hb
      obtain ⟨o, ho, q⟩ := S.own b Q hb
      exact ⟨o, hs b o e ((by first | exact ne_sn hb S.offσ | exact ne_ns hb S.offσ | exact ne_sn S.offσ hb | exact ne_ns S.offσ hb)) ho, q⟩
  · intro b hb
    by_cases e : b = a
    · subst e; exact S.ownB _ hne
    · rw [up b e] at hb; exact S.ownB b hb
  · intro b o hb
    obtain ⟨ob, hob, p⟩ := S.frm b o hb
    exact ⟨ob, hs b ob ((by first | exact ne_sn hb (S.apart _ hne) | exact ne_ns hb (S.apart _ hne) | exact ne_sn (S.apart _ hne) hb | exact ne_ns (S.apart _ hne) hb)) ((by first | exact ne_sn hb S.offφ | exact ne_ns hb S.offφ | exact ne_sn S.offφ hb | exact ne_ns S.offφ hb)) hob, p⟩
  · intro b hb
    by_cases e : b = a
    · subst e; exact S.apart _ hne
    · rw [up b e] at hb; exact S.apart b hb
end
section
open PySem PySem.W PyProof.Rows
abbrev Nev : Value → Shared → Prop := fun _ _ => False
/-- where a block ends: what is asked there is folded to a variable, so that the steps between do not carry it -/
def fld {α : Type} (Q : α → Shared → Prop) : α → Shared → Prop := Q
theorem fld_in {M : Model} {A : Around} {α : Type} {c : Sem α} {Q : α → Shared → Prop} {E : Value → Shared → Prop} {s : Shared} (h : ∀ KK : α → Shared → Prop, (∀ v s, Q v s → KK v s) → wpAny M A c KK E s) : wpAny M A c (fld Q) E s := h Q fun _ _ x => x
theorem fld_out {α : Type} {Q KK : α → Shared → Prop} (h : ∀ v s, Q v s → KK v s) {v : α} {s : Shared} (q : Q v s) : KK v s := h v s q
theorem execs_f {M : Model} {A : Around} {E : Value → Shared → Prop} {env : Env} {s : Shared} {st : Stmt} {rest : List Stmt} {Q : Flow → Shared → Prop} (h : wpAny M A (exec st env) (fld fun f s' => match f with
    | .next => wpAny M A (execs rest env) Q E s'
    | f => Q f s') E s) : wpAny M A (execs (st :: rest) env) Q E s := wpAny_execs_cons h
theorem ite_t {c : Prop} [Decidable c] {a b : Prop} (hc : c) (h : a) : if c then a else b := by rw [if_pos hc]; exact h
theorem ite_tt {i : Decidable (true = true)} {a b : Prop} (h : a) : @ite Prop (true = true) i a b := by rw [if_pos rfl]; exact h
theorem ite_ff {i : Decidable (false = true)} {a b : Prop} (h : b) : @ite Prop (false = true) i a b := by rw [if_neg Bool.false_ne_true]; exact h
theorem ite_nt {i : Decidable ((!true) = true)} {a b : Prop} (h : b) : @ite Prop ((!true) = true) i a b := by rw [if_neg (show ¬ (!true) = true from Bool.false_ne_true)]; exact h
theorem ite_nf {i : Decidable ((!false) = true)} {a b : Prop} (h : a) : @ite Prop ((!false) = true) i a b := by rw [if_pos (show (!false) = true from rfl)]; exact h
theorem ite_f {c : Prop} [Decidable c] {a b : Prop} (hc : ¬ c) (h : b) : if c then a else b := by rw [if_neg hc]; exact h

structure EnvOk (env : Env) (L : Addr) (N : List (Str × Option Addr)) : Prop where
  locals : env.locals = L
  kind : env.scope.kind = .function
  loc : ∀ x, (x, none) ∈ N → env.kindOf x = some .local
  cell : ∀ x c, (x, some c) ∈ N → env.kindOf x = some .cell ∧ env.cells.lookup x = some c
  dbg : ∀ p ∈ N, (p.1 == ("__debug__" : Str)) = false
  nodup : (N.map (·.1)).Nodup
  cnodup : (N.filterMap (·.2)).Nodup

def GlobIs (B : Heap) (x : Str) (v : Value) : Prop := ∃ mg mb, B.Ns mainGlobals mg ∧ B.Ns builtinsNs mb ∧ (mg x = some v ∨ (mg x = none ∧ mb x = some v))

structure EnvG (B : Heap) (env : Env) (G : List (Str × Value)) : Prop where
  globals : env.globals = mainGlobals
  builtins : env.builtins = builtinsNs
  kind : env.scope.kind = .function
  glob : ∀ p ∈ G, env.kindOf p.1 = some .globalImplicit ∧ (p.1 == ("__debug__" : Str)) = false ∧ GlobIs B p.1 p.2

/-- names of the blocks around, with what they hold while this one runs -/
structure EnvF (env : Env) (φ : Frz) (F : List (Str × Value)) : Prop where
  kind : env.scope.kind = .function
  free : ∀ p ∈ F, (env.kindOf p.1 = some .cell ∨ (env.kindOf p.1 = some .free ∧ (p.1 == ("__classdict__" : Str)) = false)) ∧ (p.1 == ("__debug__" : Str)) = false ∧
    ∃ c P, env.cells.lookup p.1 = some c ∧ φ c = some P ∧ ∀ o, P o → o.data = .cell (some p.2)

section
variable {B : Heap} {L : Addr} {N : List (Str × Option Addr)} {l : List (Option Value)} {σ : Own} {φ : Frz} {s₀ s : Shared}
variable {M : Model} {A : Around} {E : Value → Shared → Prop} {env : Env}

theorem loadName_v {x : Str} {k : Option Addr} {v : Value} {Q : Value → Shared → Prop} (e : EnvOk env L N) (S : St B L N l σ φ s₀ s) (g : GetV N l x k v) (h : Q v s) :
    wpAny M A (loadName env x) Q E s := by
  obtain ⟨m, hn, hv⟩ := S.vars
  cases k with
  | none => exact wpAny_loadName_local e.kind (e.loc x g.mem) (e.locals ▸ hn) (hv.get_loc g) h
  | some c =>
    obtain ⟨hk, hc⟩ := e.cell x c g.mem
    exact wpAny_loadName_cell e.kind hk hc (hv.get_cell g) h
theorem name_v {x : Str} {pos : Pos} {k : Option Addr} {v : Value} {Q : Value → Shared → Prop} (e : EnvOk env L N) (S : St B L N l σ φ s₀ s) (g : GetV N l x k v) (h : Q v s) :
    wpAny M A (eval (.Name x pos) env) Q E s := wpAny_Name (loadName_v e S g h) (e.dbg _ g.mem)
theorem name_f {x : Str} {pos : Pos} {v : Value} {F : List (Str × Value)} {Q : Value → Shared → Prop} (e : EnvF env φ F) (S : St B L N l σ φ s₀ s) (g : (x, v) ∈ F) (h : Q v s) :
    wpAny M A (eval (.Name x pos) env) Q E s := by
  obtain ⟨hk, hd, c, P, hc, hP, hv⟩ := e.free _ g
  obtain ⟨o, ho, po⟩ := S.frm c P hP
  refine wpAny_Name ?_ hd
  have hcell : s.heap.IsCell c (some v) := ⟨o, ho, hv o po⟩
  rcases hk with hk | ⟨hk, hn⟩
  · exact wpAny_loadName_cell e.kind hk hc hcell h
  · exact wpAny_loadName_free e.kind hk hc hcell h hn
theorem name_g {G : List (Str × Value)} {x : Str} {pos : Pos} {v : Value} {Q : Value → Shared → Prop} (e : EnvG B env G) (S : St B L N l σ φ s₀ s) (g : (x, v) ∈ G) (h : Q v s) :
    wpAny M A (eval (.Name x pos) env) Q E s := by
  obtain ⟨hk, hd, mg, mb, h1, h2, h3⟩ := e.glob _ g
  refine Calls.Name_function_global e.kind hk ?_ hd
  rcases h3 with h3 | ⟨h3, h4⟩
  · exact Calls.loadGlobal_global (e.globals ▸ h1.keeps S.base) h3 h
  · exact Calls.loadGlobal_builtin (e.globals ▸ h1.keeps S.base) h3 (e.builtins ▸ h2.keeps S.base) h4 h
theorem store_v {x : Str} {k : Option Addr} {v : Value} {l' : List (Option Value)} {Q : Unit → Shared → Prop} (e : EnvOk env L N) (S : St B L N l σ φ s₀ s) (g : SetV N l x k (some v) l')
    (h : ∀ s', St B L N l' σ φ s₀ s' → Q () s') : wpAny M A (storeName env x v) Q E s := by
  obtain ⟨m, hn, hv⟩ := S.vars
  cases k with
  | none =>
    refine wpAny_storeName_local (e.loc x g.mem) (e.locals ▸ hn) (fun h' hn' hs => h _ ?_) (by rw [e.kind]; rfl)
    rw [e.locals] at hn' hs
    refine { base := fun b o q => (hs.2 b (fun c => ?_)).trans (S.base b o q), above := S.above, vars := ⟨_, hn', ?_⟩, offσ := S.offσ, offφ := S.offφ, cells := S.cells, own := ?_, ownB := S.ownB, frm := ?_, apart := S.apart, gens := S.gens, drawn := S.drawn, os := S.os }
    · subst c; rw [S.offB] at q; cases q
    · exact (hv.set_loc g e.nodup).heap fun x c v hm q => q.sameBut hs (S.cells x c hm).1
    · intro a P q
      obtain ⟨o, ho, p⟩ := S.own a P q
      exact ⟨o, (hs.2 a (by first | exact ne_sn q S.offσ | exact ne_ns q S.offσ | exact ne_sn S.offσ q | exact ne_ns S.offσ q)).trans ho, p⟩
    · intro a o q
      obtain ⟨oa, hoa, p⟩ := S.frm a o q
      exact ⟨oa, (hs.2 a (by first | exact ne_sn q S.offφ | exact ne_ns q S.offφ | exact ne_sn S.offφ q | exact ne_ns S.offφ q)).trans hoa, p⟩
  | some c =>
    obtain ⟨v₀, q₀⟩ := hv.has_cell g.mem
    obtain ⟨c1, c2, c3, c4⟩ := S.cells x c g.mem
    refine wpAny_storeName_cell e.kind (e.cell x c g.mem).1 (e.cell x c g.mem).2 q₀ fun h' hc hs => h _ ?_
    refine { base := fun b o q => (hs.2 b (fun c => ?_)).trans (S.base b o q), above := S.above, vars := ⟨m, ?_, hv.set_cell g hc (fun d w hd q => q.sameBut hs hd) e.cnodup⟩, offσ := S.offσ, offφ := S.offφ, cells := S.cells, own := ?_, ownB := S.ownB, frm := ?_, apart := S.apart, gens := S.gens, drawn := S.drawn, os := S.os }
    · subst c; rw [c2] at q; cases q
    · obtain ⟨o, es, ep, ho, r⟩ := hn
      exact ⟨o, es, ep, (hs.2 L fun q => c1 q.symm).trans ho, r⟩
    · intro a P q
      obtain ⟨o, ho, p⟩ := S.own a P q
      exact ⟨o, (hs.2 a (by first | exact ne_sn q c3 | exact ne_ns q c3 | exact ne_sn c3 q | exact ne_ns c3 q)).trans ho, p⟩
    · intro a o q
      obtain ⟨oa, hoa, p⟩ := S.frm a o q
      exact ⟨oa, (hs.2 a (by first | exact ne_sn q c4 | exact ne_ns q c4 | exact ne_sn c4 q | exact ne_ns c4 q)).trans hoa, p⟩
end

/-! ### another frame -/
section
variable {B : Heap} {L : Addr} {N : List (Str × Option Addr)} {l : List (Option Value)} {σ Ω : Own} {φ : Frz} {s₀ s : Shared}
/-- what the frame at hand must leave alone -/
noncomputable def frz (N : List (Str × Option Addr)) (L : Addr) (Ω : Own) (φ : Frz) (σ : Own) (ex : List Addr) (h : Heap) : Frz := fun a =>
  open Classical in if a ∈ ex ∨ σ a ≠ none then none else if φ a ≠ none then φ a else if a = L then (h.get? a).map UpS else if a ∈ N.filterMap (·.2) ∨ Ω a ≠ none then (h.get? a).map (fun o o' => o' = o) else none
theorem frz_in {ex : List Addr} {h : Heap} {a : Addr} {P : Obj → Prop} (e : frz N L Ω φ σ ex h a = some P) : (φ a = some P ∨ ∃ o, h.get? a = some o ∧ P o) ∧ a ∉ ex ∧ σ a = none := by
  unfold frz at e
  split at e
  · cases e
  · rename_i c
    refine ⟨?_, fun q => c (.inl q), Classical.byContradiction fun q => c (.inr q)⟩
    split at e
    · exact .inl e
    · split at e
      · obtain ⟨o, ho, rfl⟩ := Option.map_eq_some_iff.mp e
        exact .inr ⟨o, ho, rfl, rfl, rfl⟩
      · split at e
        · obtain ⟨o, ho, rfl⟩ := Option.map_eq_some_iff.mp e
          exact .inr ⟨o, ho, rfl⟩
        · cases e
theorem frz_φ {ex : List Addr} {h : Heap} {a : Addr} (h1 : a ∉ ex) (h2 : σ a = none) (h3 : φ a ≠ none) : frz N L Ω φ σ ex h a = φ a := by
  unfold frz
  rw [if_neg (by rintro (c | c); exact h1 c; exact c h2), if_pos h3]
theorem frz_L {ex : List Addr} {h : Heap} (h1 : L ∉ ex) (h2 : σ L = none) (h3 : φ L = none) : frz N L Ω φ σ ex h L = (h.get? L).map UpS := by
  unfold frz
  rw [if_neg (by rintro (c | c); exact h1 c; exact c h2), if_neg (fun c => c h3), if_pos rfl]
theorem frz_of {ex : List Addr} {h : Heap} {a : Addr} (h1 : a ∉ ex) (h2 : σ a = none) (h4 : φ a = none) (h5 : a ≠ L) (h3 : a ∈ N.filterMap (·.2) ∨ Ω a ≠ none) : frz N L Ω φ σ ex h a = (h.get? a).map (fun o o' => o' = o) := by
  unfold frz
  rw [if_neg (by rintro (c | c); exact h1 c; exact c h2), if_neg (fun c => c h4), if_neg h5, if_pos h3]
theorem St.enter (S : St B L N l Ω φ s₀ s) {C : Addr} {N' : List (Str × Option Addr)} {l' : List (Option Value)} {h₁ : Heap} {t : Nat} {m : Str → Option Value}
    (hσ : ∀ a P, σ a = some P → Ω a = some P) (hk : ∀ b o, s.heap.get? b = some o → h₁.get? b = some o) (hC : σ C = none) (hCa : B.objs.size ≤ C) (hn : h₁.Ns C m) (hv : Vars h₁ m N' l')
    (hc : ∀ x c, (x, some c) ∈ N' → c ≠ C ∧ B.get? c = none ∧ σ c = none) :
    St B C N' l' σ (frz N L Ω φ σ (C :: N'.filterMap (·.2)) h₁) s₀ { s with heap := h₁, toks := t } := by
  refine { base := fun b o e => hk b o (S.base b o e), above := hCa, vars := ⟨m, hn, hv⟩, offσ := hC, offφ := ?_, cells := fun x c hm => ?_, own := fun a P e => ?_, ownB := fun a e => ?_, frm := fun a P e => ?_, apart := fun a e => ?_, gens := S.gens, drawn := S.drawn, os := S.os }
  · unfold frz; rw [if_pos (.inl (.head _))]
  · obtain ⟨h1, h2, h3⟩ := hc x c hm
    refine ⟨h1, h2, h3, ?_⟩
    unfold frz; rw [if_pos (.inl (.tail _ (List.mem_filterMap.mpr ⟨_, hm, rfl⟩)))]
  · obtain ⟨o, ho, p⟩ := S.own a P (hσ a P e); exact ⟨o, hk a o ho, p⟩
  · cases q : σ a with
    | none => exact absurd q e
    | some P => exact S.ownB a (by rw [hσ a P q]; exact fun e => by cases e)
  · rcases (frz_in e).1 with h | h
    · obtain ⟨o, ho, p⟩ := S.frm a P h; exact ⟨o, hk a o ho, p⟩
    · exact h
  · unfold frz; rw [if_pos (.inr e)]
/-- what is owned behind it -/
noncomputable def mrg (σ'' Ω σ : Own) (ex : List Addr) : Own := fun a => open Classical in if σ'' a ≠ none then σ'' a else if σ a = none ∧ a ∉ ex then Ω a else none
theorem St.leave (S : St B L N l Ω φ s₀ s) {C : Addr} {N' : List (Str × Option Addr)} {l' : List (Option Value)} {h₁ : Heap} {σ'' : Own} {s'' : Shared} {ex : List Addr}
    (hσ : ∀ a P, σ a = some P → Ω a = some P) (hk : ∀ b o, s.heap.get? b = some o → h₁.get? b = some o) (hex : ∀ a ∈ ex, a ≠ L ∧ (∀ x c, (x, some c) ∈ N → c ≠ a) ∧ φ a = none)
    (S' : St B C N' l' σ'' (frz N L Ω φ σ ex h₁) s₀ s'') : St B L N l (mrg σ'' Ω σ ex) φ s₀ s'' := by
  obtain ⟨m, ⟨oL, es, ep, hL, r⟩, hv⟩ := S.vars
  have σL : σ L = none := by
    cases q : σ L with
    | none => rfl
    | some P => have := hσ L P q; rw [S.offσ] at this; cases this
  have off_ : ∀ a P, frz N L Ω φ σ ex h₁ a = some P → σ'' a = none := fun a P q => by
    cases q' : σ'' a with
    | none => rfl
    | some P => rw [S'.apart a (by rw [q']; exact fun e => by cases e)] at q; cases q
  have at_ : ∀ a o, a ∉ ex → σ a = none → φ a = none → a ≠ L → (a ∈ N.filterMap (·.2) ∨ Ω a ≠ none) → s.heap.get? a = some o → s''.heap.get? a = some o ∧ σ'' a = none := fun a o h1 h2 h3 h4 h5 e => by
    have q : frz N L Ω φ σ ex h₁ a = some (fun o' => o' = o) := by rw [frz_of h1 h2 h3 h4 h5, hk a o e]; rfl
    obtain ⟨o', ho', rfl⟩ := S'.frm a _ q
    exact ⟨ho', off_ a _ q⟩
  have atφ : ∀ a P, φ a = some P → a ∉ ex → σ a = none → (∃ o, s''.heap.get? a = some o ∧ P o) ∧ σ'' a = none := fun a P e h1 h2 => by
    have q : frz N L Ω φ σ ex h₁ a = some P := by rw [frz_φ h1 h2 (by rw [e]; exact fun e => by cases e), e]
    exact ⟨S'.frm a P q, off_ a _ q⟩
  have atL : L ∉ ex → (∃ oL', s''.heap.get? L = some oL' ∧ UpS oL oL') ∧ σ'' L = none := fun h1 => by
    have q : frz N L Ω φ σ ex h₁ L = some (UpS oL) := by rw [frz_L h1 σL S.offφ, hk L oL hL]; rfl
    exact ⟨S'.frm L _ q, off_ L _ q⟩
  have exL : L ∉ ex := fun h => (hex L h).1 rfl
  have cellx : ∀ x c, (x, some c) ∈ N → c ∉ ex ∧ σ c = none ∧ c ∈ N.filterMap (·.2) := fun x c hm => ⟨fun h => (hex c h).2.1 x c hm rfl, (by
    cases q : σ c with
    | none => rfl
    | some P => have := hσ c P q; rw [(S.cells x c hm).2.2.1] at this; cases this), List.mem_filterMap.mpr ⟨_, hm, rfl⟩⟩
  have mrg_none : ∀ a, σ'' a = none → Ω a = none → mrg σ'' Ω σ ex a = none := fun a h1 h2 => by
    unfold mrg; rw [if_neg (fun q => q h1)]; split; exact h2; rfl
  have mrg_some : ∀ a P, mrg σ'' Ω σ ex a = some P → σ'' a = some P ∨ (σ a = none ∧ a ∉ ex ∧ Ω a = some P) := fun a P e => by
    unfold mrg at e
    split at e
    · exact .inl e
    · split at e
      · rename_i h; exact .inr ⟨h.1, h.2, e⟩
      · cases e
  obtain ⟨⟨oL', hL', up1, up2, up3⟩, nL⟩ := atL exL
  refine { base := S'.base, above := S.above, vars := ⟨m, ⟨oL', es, ep, hL', up1 ▸ r⟩, hv.heap ?_⟩, offσ := mrg_none L nL S.offσ, offφ := S.offφ, cells := ?_, own := ?_, ownB := ?_, frm := ?_, apart := ?_, gens := S'.gens, drawn := S'.drawn, os := S'.os }
  · rintro x c v hm ⟨o, ho, hd⟩
    obtain ⟨h1, h2, h3⟩ := cellx x c hm
    exact ⟨o, (at_ c o h1 h2 (S.cells x c hm).2.2.2 (S.cells x c hm).1 (.inl h3) ho).1, hd⟩
  · intro x c hm
    obtain ⟨h1, h2, h3, h4⟩ := S.cells x c hm
    obtain ⟨v, o, ho, hd⟩ := hv.has_cell hm
    obtain ⟨k1, k2, k3⟩ := cellx x c hm
    exact ⟨h1, h2, mrg_none c (at_ c o k1 k2 h4 h1 (.inl k3) ho).2 h3, h4⟩
  · intro a P e
    rcases mrg_some a P e with q | ⟨q1, q2, q3⟩
    · exact S'.own a P q
    · obtain ⟨o, ho, p⟩ := S.own a P q3
      have hne : Ω a ≠ none := by rw [q3]; exact fun e => by cases e
      exact ⟨o, (at_ a o q2 q1 (S.apart a hne) ((by first | exact ne_sn q3 S.offσ | exact ne_ns q3 S.offσ | exact ne_sn S.offσ q3 | exact ne_ns S.offσ q3)) (.inr hne) ho).1, p⟩
  · intro a e
    cases q : mrg σ'' Ω σ ex a with
    | none => exact absurd q e
    | some P =>
      rcases mrg_some a P q with q | ⟨q1, q2, q3⟩
      · exact S'.ownB a (by rw [q]; exact fun e => by cases e)
      · exact S.ownB a (by rw [q3]; exact fun e => by cases e)
  · intro a o e
    refine (atφ a o e (fun h => ?_) ?_).1
    · rw [(hex a h).2.2] at e; cases e
    · cases q : σ a with
      | none => rfl
      | some P => rw [S.apart a (by rw [hσ a P q]; exact fun e => by cases e)] at e; cases e
  · intro a e
    cases q : φ a with
    | none => rfl
    | some o =>
      exfalso
      have hx : a ∉ ex := fun h => by rw [(hex a h).2.2] at q; cases q
      have hs : σ a = none := by
        cases q' : σ a with
        | none => rfl
        | some P => rw [S.apart a (by rw [hσ a P q']; exact fun e => by cases e)] at q; cases q
      have hO : Ω a = none := Classical.byContradiction fun c => by rw [S.apart a c] at q; cases q
      exact e (mrg_none a (atφ a o q hx hs).2 hO)
theorem mrg_self {σ'' : Own} {ex : List Addr} : ∀ a P, σ'' a = some P → mrg σ'' Ω Ω ex a = some P := fun a P e => by unfold mrg; rw [if_pos (by rw [e]; exact fun e => by cases e)]; exact e
end

structure Deeper (A A' : Around) : Prop where
  depth : A'.depth = A.depth + 1
  units : A'.units = A.units + 3
  handled : A'.handled = A.handled
  guards : A'.guards = A.guards
/-- room for k calls one within the other -/
structure Rm (A : Around) (k : Nat) : Prop where
  depth : A.depth + k < recursionLimit
  units : A.units + 10 * k + 100 < cLine
  handled : A.handled = none
theorem Rm.deeper {A A' : Around} {k : Nat} (r : Rm A (k + 1)) (d : Deeper A A') : Rm A' k := ⟨by have := r.depth; rw [d.depth]; omega, by have := r.units; rw [d.units]; omega, d.handled.trans r.handled⟩
theorem Rm.less {A : Around} {k k' : Nat} (r : Rm A k) (h : k' ≤ k) : Rm A k' := ⟨by have := r.depth; omega, by have := r.units; omega, r.handled⟩
theorem Rm.in1 {A : Around} {k : Nat} (r : Rm A (k + 1)) : Rm A.in1 k := ⟨by have := r.depth; show A.depth + k < _; omega, by have := r.units; show A.units + 1 + 10 * k + 100 < _; omega, r.handled⟩

noncomputable def retOf : Flow → Value
  | .ret v => v
  | _ => .none

noncomputable def envChk (names : List (Str × NameKind)) (N : List (Str × Bool)) (G : List Str) : Bool :=
  N.all (fun x => (names.lookup x.1 == some (if x.2 then .cell else .local)) && !(x.1 == ("__debug__" : Str))) && G.all (fun x => (names.lookup x == some .globalImplicit) && !(x == ("__debug__" : Str)))

theorem envG_of {B : Heap} {env : Env} {names : List (Str × NameKind)} {N : List (Str × Bool)} {G : List (Str × Value)} (hn : env.scope.names = names) (hk : env.scope.kind = .function) (hg : env.globals = mainGlobals) (hb : env.builtins = builtinsNs) (hG : ∀ p ∈ G, GlobIs B p.1 p.2)
    (hc : envChk names N (G.map (·.1)) = true) : EnvG B env G := by
  unfold envChk at hc
  obtain ⟨_, h1⟩ := Bool.and_eq_true_iff.mp hc
  have h1' := List.all_eq_true.mp h1
  refine { globals := hg, builtins := hb, kind := hk, glob := fun p hp => ?_ }
  obtain ⟨a, b⟩ := Bool.and_eq_true_iff.mp (h1' p.1 (List.mem_map.mpr ⟨p, hp, rfl⟩))
  exact ⟨by show env.scope.names.lookup p.1 = _; rw [hn]; exact beq_iff_eq.mp a, by simpa using b, hG p hp⟩

/-- the names of a frame: which cell holds which -/
noncomputable def cellsOf (cs : List (Str × Addr)) (N : List (Str × Bool)) : List (Str × Option Addr) := N.map fun x => (x.1, cond x.2 (cs.lookup x.1) none)
theorem envOk_of {env : Env} {L : Addr} {names : List (Str × NameKind)} {N : List (Str × Bool)} {G : List Str} (hn : env.scope.names = names) (hL : env.locals = L) (hk : env.scope.kind = .function) (nd : (N.map (·.1)).Nodup) (hc : envChk names N G = true)
    (hl : ∀ x ∈ N, x.2 = true → (env.cells.lookup x.1).isSome = true) (hap : env.cells.Pairwise fun x y => x.2 ≠ y.2) : EnvOk env L (cellsOf env.cells N) := by
  unfold envChk at hc
  obtain ⟨h1, _⟩ := Bool.and_eq_true_iff.mp hc
  have h1' := List.all_eq_true.mp h1
  have lk : ∀ {x c}, env.cells.lookup x = some c → (x, c) ∈ env.cells := fun {x c} e => mem_of_lookup e
  refine { locals := hL, kind := hk, loc := ?_, cell := ?_, dbg := ?_, nodup := ?_, cnodup := ?_ }
  · intro x hm
    obtain ⟨y, hy, e⟩ := List.mem_map.mp hm
    obtain ⟨a, _⟩ := Bool.and_eq_true_iff.mp (h1' y hy)
    cases hb : y.2 with
    | true =>
      rw [hb] at e
      dsimp only [cond] at e
      have e2 := congrArg Prod.snd e
      have := hl y hy hb
      simp only at e2
      rw [e2] at this; cases this
    | false =>
      rw [hb] at a e
      have e1 := congrArg Prod.fst e
      simp only at e1
      show env.scope.names.lookup x = _
      rw [hn, ← e1]; simpa using a
  · intro x c hm
    obtain ⟨y, hy, e⟩ := List.mem_map.mp hm
    obtain ⟨a, _⟩ := Bool.and_eq_true_iff.mp (h1' y hy)
    cases hb : y.2 with
    | true =>
      rw [hb] at a e
      dsimp only [cond] at e
      have e1 := congrArg Prod.fst e
      have e2 := congrArg Prod.snd e
      simp only at e1 e2
      rw [← e1]
      exact ⟨by show env.scope.names.lookup y.1 = _; rw [hn]; simpa using a, e2⟩
    | false => rw [hb] at e; simp at e
  · intro p hm
    obtain ⟨y, hy, e⟩ := List.mem_map.mp hm
    obtain ⟨_, b⟩ := Bool.and_eq_true_iff.mp (h1' y hy)
    rw [← e]; simpa using b
  · unfold cellsOf
    rw [List.map_map]
    exact nd
  · unfold cellsOf
    rw [List.filterMap_map]
    refine List.Pairwise.filterMap _ (R := fun x y : Str × Bool => x.1 ≠ y.1) ?_ (List.pairwise_map.mp nd)
    intro a a' hne b hb b' hb' e
    subst e
    simp only [Function.comp] at hb hb'
    cases ha : a.2 with
    | true =>
      cases ha' : a'.2 with
      | true =>
        rw [ha] at hb
        rw [ha'] at hb'
        have m1 := lk hb
        have m2 := lk hb'
        have : ∀ (l : List (Str × Addr)), l.Pairwise (fun x y => x.2 ≠ y.2) → ∀ x y c, (x, c) ∈ l → (y, c) ∈ l → x = y := by
          intro l
          induction l with
          | nil => intro _ _ _ _ h; cases h
          | cons q r ih =>
            intro hp x y c hx hy
            obtain ⟨p1, p2⟩ := List.pairwise_cons.mp hp
            rcases List.mem_cons.mp hx with hx | hx <;> rcases List.mem_cons.mp hy with hy | hy
            · rw [← hx] at hy; exact (congrArg Prod.fst hy).symm
            · exact absurd (by rw [← hx]) (p1 _ hy)
            · exact absurd (by rw [← hy]) (p1 _ hx)
            · exact ih p2 x y c hx hy
        exact hne (this _ hap _ _ _ m1 m2)
      | false => rw [ha'] at hb'; cases hb'
    | false => rw [ha] at hb; cases hb
end
section
open PySem PySem.W PyProof.Rows
inductive Init (m cm : Str → Option Value) : List (Str × Bool) → List (Option Value) → Prop
  | nil : Init m cm [] []
  | loc {x v N l} : (∀ u, v = some u → m x = some u) → Init m cm N l → Init m cm ((x, false) :: N) (v :: l)
  | cell {x v N l} : (∀ u, v = some u → cm x = some u) → Init m cm N l → Init m cm ((x, true) :: N) (v :: l)
theorem Init.vars {m cm : Str → Option Value} {cs : List (Str × Addr)} {h : Heap} {N : List (Str × Bool)} {l : List (Option Value)} (i : Init m cm N l) (hc : ∀ n c, cs.lookup n = some c → h.IsCell c (cm n))
    (hs : ∀ x ∈ N, x.2 = true → (cs.lookup x.1).isSome = true) : Vars h m (cellsOf cs N) l := by
  induction i with
  | nil => exact .nil
  | loc a _ ih => exact .loc a (ih fun x hm => hs x (.tail _ hm))
  | @cell x v N l a _ ih =>
    have := hs (x, true) (.head _) rfl
    obtain ⟨c, e⟩ := Option.isSome_iff_exists.mp this
    show Vars h m ((x, cs.lookup x) :: cellsOf cs N) _
    rw [e]
    exact .cell ⟨_, hc x c e, a⟩ (ih fun x hm => hs x (.tail _ hm))

section
variable {B : Heap} {L : Addr} {N : List (Str × Option Addr)} {l : List (Option Value)} {σ : Own} {φ : Frz} {s₀ s : Shared}
variable {prog : Program} {w : World} {A : Around} {E : Value → Shared → Prop} {env : Env}

theorem deeper_of {A : Around} {env : Env} : Deeper A (A.deeper env) := ⟨rfl, rfl, rfl, rfl⟩

/-- a call of a def of the text, whatever binds its arguments -/
theorem code_bt {f : Addr} {fo : Obj} {fd : FuncData} {body : List Stmt} {args : List Value} {binds : List (Str × Value)} {Rs : Result → Shared → Prop} (N' : List Str) (l' : List (Option Value)) (G : List (Str × Value)) (Post : Value → Own → Prop)
    (S : St B L N l σ φ s₀ s) (hroom : A.depth < recursionLimit) (hlim : B.NoLimit) (hG : ∀ p ∈ G, GlobIs B p.1 p.2) (ho : B.get? f = some fo) (hdata : fo.data = .func fd) (hcd : B.CodeRec fd.code fd.qualname) (hbody : fd.body = .stmts body)
    (hbind : BindsTo s fd ⟨args, []⟩ binds) (hcell : ∀ x ∈ fd.scope.names, x.2 ≠ .cell) (hloc : ∀ x ∈ binds, fd.scope.names.lookup x.1 = some .local)
    (nd : N'.Nodup) (hchk : envChk fd.scope.names (N'.map (·, false)) (G.map (·.1)) = true) (hglo : fd.globals = mainGlobals) (hblt : fd.builtins = builtinsNs)
    (hv : ∀ h, Vars h (fun x => binds.reverse.lookup x) (N'.map (·, none)) l')
    (h : ∀ env A' L' φ' s', EnvOk env L' (N'.map (·, none)) → EnvG B env G → Deeper A A' → St B L' (N'.map (·, none)) l' σ φ' s₀ s' →
      wpAny (model prog w) A' (execs body env) (fld fun fl s'' => ∃ l'' σ', St B L' (N'.map (·, none)) l'' σ' φ' s₀ s'' ∧ Post (retOf fl) σ') Nev s')
    (k : ∀ v σ' s'', Post v σ' → St B L N l σ' φ s₀ s'' → Rs (.ok (.ret v)) s'')
    (hco : fd.scope.isCoroutine = false := by rfl) (hgen : fd.scope.isGenerator = false := by rfl) (hk : fd.scope.kind = .function := by rfl) :
    codeAny (model prog w) A (.call (.ref f) ⟨args, []⟩) Rs s := by
  refine (codeAny_call_def hroom (S.base f fo ho) hdata (hlim.keeps S.base) (hcd.keeps S.base) hbody hbind hcell hloc (fun h₁ hns hk₁ => ?_) hco hgen hk)
  have hCa : B.objs.size ≤ s.heap.objs.size := by
    obtain ⟨oL, hL⟩ := S.L_in
    have := Heap.lt_size hL; have := S.above
    exact Nat.le_of_lt (Nat.lt_of_le_of_lt S.above (Heap.lt_size hL))
  have nocell : ∀ x c, (x, some c) ∈ N'.map (fun x => (x, (none : Option Addr))) → False := fun x c hm => by obtain ⟨y, _, e⟩ := List.mem_map.mp hm; cases e
  have S' := S.enter (σ := σ) (C := s.heap.objs.size) (N' := N'.map (·, none)) (l' := l') (t := s.toks + binds.length) (fun _ _ e => e) hk₁ S.fresh hCa hns (hv _) (fun x c hm => (nocell x c hm).elim)
  have e1 : EnvOk (callEnv fd s.heap.objs.size f) s.heap.objs.size (N'.map (·, none)) := by
    refine { locals := rfl, kind := hk, loc := fun x hm => ?_, cell := fun x c hm => (nocell x c hm).elim, dbg := fun p hm => ?_, nodup := ?_, cnodup := ?_ }
    · obtain ⟨y, hy, e⟩ := List.mem_map.mp hm
      cases e
      unfold envChk at hchk
      have := List.all_eq_true.mp (Bool.and_eq_true_iff.mp hchk).1 (x, false) (List.mem_map.mpr ⟨x, hy, rfl⟩)
      exact beq_iff_eq.mp (Bool.and_eq_true_iff.mp this).1
    · obtain ⟨y, hy, e⟩ := List.mem_map.mp hm
      cases e
      unfold envChk at hchk
      have := List.all_eq_true.mp (Bool.and_eq_true_iff.mp hchk).1 (y, false) (List.mem_map.mpr ⟨y, hy, rfl⟩)
      simpa using (Bool.and_eq_true_iff.mp this).2
    · rw [List.map_map]
      have : ((fun x : Str × Option Addr => x.1) ∘ fun x => (x, none)) = id := rfl
      rw [this, List.map_id]; exact nd
    · rw [List.filterMap_map]
      have : N'.filterMap ((fun x : Str × Option Addr => x.2) ∘ fun x => (x, none)) = [] := List.filterMap_eq_nil_iff.mpr fun _ _ => rfl
      rw [this]; exact .nil
  refine wpAny_mono (h _ _ _ _ _ e1 (envG_of (names := fd.scope.names) rfl hk hglo hblt hG hchk) deeper_of S') (fun fl s'' hh => ?_) fun _ _ x => x.elim
  obtain ⟨l'', σ', S'', hp⟩ := hh
  have S3 := S.leave (σ := σ) (h₁ := h₁) (fun _ _ e => e) hk₁ (fun a ha => ?_) S''
  · have fin := k _ σ' s'' hp (S3.forget mrg_self)
    cases fl <;> exact fin
  · have : a = s.heap.objs.size := by
      rcases List.mem_cons.mp ha with h | h
      · exact h
      · obtain ⟨⟨x, k⟩, hm, e⟩ := List.mem_filterMap.mp h
        cases e; exact (nocell _ _ hm).elim
    subst this
    refine ⟨fun e => ?_, fun x c hm e => ?_, S.freeφ size_none⟩
    · obtain ⟨oL, hL⟩ := S.L_in; exact absurd (Heap.lt_size hL) (by rw [← e]; exact Nat.lt_irrefl _)
    · obtain ⟨m, _, hv⟩ := S.vars
      obtain ⟨v, o, ho, _⟩ := hv.has_cell hm
      exact absurd (Heap.lt_size ho) (by rw [e]; exact Nat.lt_irrefl _)

/-- the same within an expression -/
theorem call_bt {f : Addr} {fo : Obj} {fd : FuncData} {body : List Stmt} {args : List Value} {binds : List (Str × Value)} {Q : Value → Shared → Prop} (N' : List Str) (l' : List (Option Value)) (G : List (Str × Value)) (Post : Value → Own → Prop)
    (S : St B L N l σ φ s₀ s) (hroom : A.depth < recursionLimit) (hlim : B.NoLimit) (hG : ∀ p ∈ G, GlobIs B p.1 p.2) (ho : B.get? f = some fo) (hdata : fo.data = .func fd) (hcd : B.CodeRec fd.code fd.qualname) (hbody : fd.body = .stmts body)
    (hbind : BindsTo s fd ⟨args, []⟩ binds) (hcell : ∀ x ∈ fd.scope.names, x.2 ≠ .cell) (hloc : ∀ x ∈ binds, fd.scope.names.lookup x.1 = some .local)
    (nd : N'.Nodup) (hchk : envChk fd.scope.names (N'.map (·, false)) (G.map (·.1)) = true) (hglo : fd.globals = mainGlobals) (hblt : fd.builtins = builtinsNs)
    (hv : ∀ h, Vars h (fun x => binds.reverse.lookup x) (N'.map (·, none)) l')
    (h : ∀ env A' L' φ' s', EnvOk env L' (N'.map (·, none)) → EnvG B env G → Deeper A A' → St B L' (N'.map (·, none)) l' σ φ' s₀ s' →
      wpAny (model prog w) A' (execs body env) (fld fun fl s'' => ∃ l'' σ', St B L' (N'.map (·, none)) l'' σ' φ' s₀ s'' ∧ Post (retOf fl) σ') Nev s')
    (k : ∀ v σ' s'', Post v σ' → St B L N l σ' φ s₀ s'' → Q v s'')
    (hco : fd.scope.isCoroutine = false := by rfl) (hgen : fd.scope.isGenerator = false := by rfl) (hk : fd.scope.kind = .function := by rfl) :
    wpAny (model prog w) A (call (.ref f) args) Q E s :=
  wpAny_call (code_bt N' l' G Post S hroom hlim hG ho hdata hcd hbody hbind hcell hloc nd hchk hglo hblt hv h (fun v σ' s'' p S' => k v σ' s'' p S') hco hgen hk)

/-- the frames around, each held back up to its slots -/
def Outer (φ : Frz) (B : Heap) : List Env → Prop
  | [] => True
  | env :: r => env.scope.kind ≠ .module ∧ (∃ L P, env.frame = some L ∧ B.get? L = none ∧ φ L = some P ∧ (∀ o, P o → ∃ es ep, o.data = .dict es ep) ∧ (∀ (o : Obj) sl, P o → P { o with slots := sl })) ∧ Outer φ B r
def Fm (A : Around) (φ : Frz) (B : Heap) (env : Env) (L : Addr) : Prop := ∃ outer, A.frames = some (env :: outer) ∧ env.scope.kind ≠ .module ∧ env.frame = some L ∧ Outer φ B outer
def FmAny (A : Around) (φ : Frz) (B : Heap) (L : Addr) : Prop := (∃ env, Fm A φ B env L) ∨ A.frames = some []
theorem Outer.frz {B : Heap} {L : Addr} {N : List (Str × Option Addr)} {Ω σ : Own} {φ : Frz} {ex : List Addr} {h : Heap} (hex : ∀ a ∈ ex, φ a = none) (hσ : ∀ a, φ a ≠ none → σ a = none) : ∀ {l : List Env}, Outer φ B l → Outer (Mine.frz N L Ω φ σ ex h) B l
  | [], _ => trivial
  | env :: r, ⟨h1, ⟨L', P, h2, h3, h4, h5⟩, h6⟩ => ⟨h1, ⟨L', P, h2, h3, by
      have hne : φ L' ≠ none := by rw [h4]; exact fun e => by cases e
      rw [frz_φ (fun c => hne (hex _ c)) (hσ _ hne) hne]; exact h4, h5⟩, Outer.frz hex hσ h6⟩
theorem Outer.mono {B : Heap} {φ φ' : Frz} (h : ∀ a P, φ a = some P → φ' a = some P) : ∀ {l : List Env}, Outer φ B l → Outer φ' B l
  | [], _ => trivial
  | env :: r, ⟨h1, ⟨L', P, h2, h3, h4, h5⟩, h6⟩ => ⟨h1, ⟨L', P, h2, h3, h _ _ h4, h5⟩, Outer.mono h h6⟩
theorem Fm.mono {A : Around} {B : Heap} {φ φ' : Frz} {env : Env} {L : Addr} (h : ∀ a P, φ a = some P → φ' a = some P) (f : Fm A φ B env L) : Fm A φ' B env L := let ⟨o, h1, h2, h3, h4⟩ := f; ⟨o, h1, h2, h3, h4.mono h⟩
theorem Fm.enter {B : Heap} {A : Around} {L C : Addr} {N : List (Str × Option Addr)} {l : List (Option Value)} {σ : Own} {φ : Frz} {s₀ s : Shared} {ex : List Addr} {h₁ : Heap} {env : Env} (S : St B L N l σ φ s₀ s)
    (hk : ∀ b o, s.heap.get? b = some o → h₁.get? b = some o) (hex : ∀ a ∈ ex, s.heap.get? a = none) (he : env.frame = some C) (hm : env.scope.kind = .function) (f : FmAny A φ B L) : Fm (A.deeper env) (frz N L σ φ σ ex h₁) B env C := by
  have hexφ : ∀ a ∈ ex, φ a = none := fun a ha => S.freeφ (hex a ha)
  have hσφ : ∀ a, φ a ≠ none → σ a = none := fun a h => Classical.byContradiction fun c => h (S.apart a c)
  have hkm : env.scope.kind ≠ .module := by rw [hm]; decide
  rcases f with ⟨env0, outer, f1, f2, f3, f4⟩ | f
  · refine ⟨env0 :: outer, by show A.frames.map _ = _; rw [f1]; rfl, hkm, he, f2, ⟨L, ?_⟩, f4.frz hexφ hσφ⟩
    obtain ⟨m, ⟨oL, es, ep, hL, hd, _⟩, _⟩ := S.vars
    refine ⟨UpS oL, f3, S.offB, ?_, fun o p => ⟨es, ep, p.1.trans hd⟩, fun o sl p => p⟩
    rw [frz_L (fun c => by rw [hex L c] at hL; cases hL) S.offσ S.offφ, hk L oL hL]; rfl
  · exact ⟨[], by show A.frames.map _ = _; rw [f]; rfl, hkm, he, trivial⟩

/-- a call of a plain def; its names may be cells -/
theorem code_stF {f : Addr} {fo : Obj} {fd : FuncData} {body : List Stmt} {args : List Value} {binds : List (Str × Value)} {Rs : Result → Shared → Prop} (N' : List (Str × Bool)) (l' : List (Option Value)) (G : List (Str × Value)) (Post : Value → Own → Prop)
    (S : St B L N l σ φ s₀ s) (hroom : A.depth < recursionLimit) (hlim : B.NoLimit) (hG : ∀ p ∈ G, GlobIs B p.1 p.2) (ho : B.get? f = some fo) (hdata : fo.data = .func fd) (hcd : B.CodeRec fd.code fd.qualname) (hbody : fd.body = .stmts body)
    (hbind : bindArgs fd ⟨args, []⟩ = pure binds) (hclo : fd.closure = []) (hglo : fd.globals = mainGlobals) (hblt : fd.builtins = builtinsNs)
    (hkind : ∀ n, ∀ x ∈ binds, fd.scope.names.lookup x.1 = some .local ∨ (fd.scope.names.lookup x.1 = some .cell ∧ ((cellsFrom n fd.scope.names []).lookup x.1).isSome = true))
    (hcs : ∀ n, ∀ x ∈ N', x.2 = true → ((cellsFrom n fd.scope.names []).lookup x.1).isSome = true)
    (nd : (N'.map (·.1)).Nodup) (hchk : envChk fd.scope.names N' (G.map (·.1)) = true)
    (hv : Init (bindL (fun x => fd.scope.names.lookup x) binds fun _ => none) (bindC (fun x => fd.scope.names.lookup x) binds fun _ => none) N' l')
    (h : ∀ env A' L' (κ : Str → Option Addr) φ' s', (∀ x ∈ N', x.2 = true → κ x.1 ≠ none) → EnvOk env L' (N'.map fun x => (x.1, cond x.2 (κ x.1) none)) → EnvG B env G → Deeper A A' → (FmAny A φ B L → Fm A' φ' B env L') → St B L' (N'.map fun x => (x.1, cond x.2 (κ x.1) none)) l' σ φ' s₀ s' →
      wpAny (model prog w) A' (execs body env) (fld fun fl s'' => ∃ l'' σ', St B L' (N'.map fun x => (x.1, cond x.2 (κ x.1) none)) l'' σ' φ' s₀ s'' ∧ Post (retOf fl) σ') Nev s')
    (k : ∀ v σ' s'', Post v σ' → St B L N l σ' φ s₀ s'' → Rs (.ok (.ret v)) s'')
    (hco : fd.scope.isCoroutine = false := by rfl) (hgen : fd.scope.isGenerator = false := by rfl) (hk : fd.scope.kind = .function := by rfl) :
    codeAny (model prog w) A (.call (.ref f) ⟨args, []⟩) Rs s := by
  refine (codeAny_call_cells hroom (S.base f fo ho) hdata (hlim.keeps S.base) (hcd.keeps S.base) hbody hbind hclo (hkind _) (fun s₁ X => ?_) hco hgen hk)
  obtain ⟨h₁, tk, rfl⟩ := X.toInCall.same
  have hk₁ := X.toInCall.keep
  have hCa : B.objs.size ≤ s.heap.objs.size := by
    obtain ⟨oL, hL⟩ := S.L_in
    exact Nat.le_of_lt (Nat.lt_of_le_of_lt S.above (Heap.lt_size hL))
  have cadd : ∀ x c, (x, some c) ∈ cellsOf (callEnvC fd s.heap.objs.size f).cells N' → s.heap.objs.size < c := fun x c hm => by
    obtain ⟨y, hy, e⟩ := List.mem_map.mp hm
    cases hb : y.2 with
    | true =>
      rw [hb] at e
      dsimp only [cond] at e
      have e2 := congrArg Prod.snd e
      simp only at e2
      exact X.above y.1 c (mem_of_lookup e2)
    | false => rw [hb] at e; cases e
  have big : ∀ c, s.heap.objs.size < c → s.heap.get? c = none := fun c hc => by
    cases q : s.heap.get? c with
    | none => rfl
    | some o => exact absurd (Heap.lt_size q) (Nat.not_lt.mpr (Nat.le_of_lt hc))
  have hexn : ∀ a ∈ s.heap.objs.size :: (cellsOf (callEnvC fd s.heap.objs.size f).cells N').filterMap (·.2), s.heap.get? a = none := fun a ha => by
    rcases List.mem_cons.mp ha with h | h
    · rw [h]; exact size_none
    · obtain ⟨⟨x, k⟩, hm, e⟩ := List.mem_filterMap.mp h
      cases e; exact big _ (cadd x a hm)
  have hv' := hv.vars (cs := (callEnvC fd s.heap.objs.size f).cells) (h := h₁) X.cell (hcs _)
  have S' := S.enter (σ := σ) (C := s.heap.objs.size) (N' := cellsOf (callEnvC fd s.heap.objs.size f).cells N') (l' := l') (t := tk) (fun _ _ e => e) hk₁ S.fresh hCa X.toInCall.ns hv'
    (fun x c hm => ⟨fun e => by have := cadd x c hm; rw [e] at this; exact Nat.lt_irrefl _ this, S.freeB (big c (cadd x c hm)), S.free (big c (cadd x c hm))⟩)
  have e1 := envOk_of (env := callEnvC fd s.heap.objs.size f) (L := s.heap.objs.size) (names := fd.scope.names) (N := N') (G := G.map (·.1)) rfl rfl hk nd hchk (hcs _) X.apart
  refine wpAny_mono (h _ _ _ (fun x => (callEnvC fd s.heap.objs.size f).cells.lookup x) _ _ (fun x hx hb => fun e => by have := hcs (s.heap.objs.size + 1) x hx hb; rw [show (cellsFrom (s.heap.objs.size + 1) fd.scope.names []).lookup x.1 = none from e] at this; cases this) e1 (envG_of (names := fd.scope.names) rfl hk hglo hblt hG hchk) deeper_of (Fm.enter S hk₁ (fun a ha => hexn a ha) rfl hk) S') (fun fl s'' hh => ?_) fun _ _ x => x.elim
  obtain ⟨l'', σ', S'', hp⟩ := hh
  have S3 := S.leave (σ := σ) (h₁ := h₁) (fun _ _ e => e) hk₁ (fun a ha => ?_) S''
  · have fin := k _ σ' s'' hp (S3.forget mrg_self)
    cases fl <;> exact fin
  · have hlt : s.heap.objs.size ≤ a := by
      rcases List.mem_cons.mp ha with h | h
      · exact Nat.le_of_eq h.symm
      · obtain ⟨⟨x, k⟩, hm, e⟩ := List.mem_filterMap.mp h
        cases e; exact Nat.le_of_lt (cadd x a hm)
    have hn : s.heap.get? a = none := by
      cases q : s.heap.get? a with
      | none => rfl
      | some o => exact absurd (Heap.lt_size q) (Nat.not_lt.mpr hlt)
    refine ⟨fun e => ?_, fun x c hm e => ?_, S.freeφ hn⟩
    · subst e; obtain ⟨oL, hL⟩ := S.L_in; rw [hn] at hL; cases hL
    · subst e
      obtain ⟨m, _, hv⟩ := S.vars
      obtain ⟨v, o, ho, _⟩ := hv.has_cell hm
      rw [hn] at ho; cases ho

/-- a call of a plain def; its names may be cells -/
theorem code_st {f : Addr} {fo : Obj} {fd : FuncData} {body : List Stmt} {args : List Value} {binds : List (Str × Value)} {Rs : Result → Shared → Prop} (N' : List (Str × Bool)) (l' : List (Option Value)) (G : List (Str × Value)) (Post : Value → Own → Prop)
    (S : St B L N l σ φ s₀ s) (hroom : A.depth < recursionLimit) (hlim : B.NoLimit) (hG : ∀ p ∈ G, GlobIs B p.1 p.2) (ho : B.get? f = some fo) (hdata : fo.data = .func fd) (hcd : B.CodeRec fd.code fd.qualname) (hbody : fd.body = .stmts body)
    (hbind : bindArgs fd ⟨args, []⟩ = pure binds) (hclo : fd.closure = []) (hglo : fd.globals = mainGlobals) (hblt : fd.builtins = builtinsNs)
    (hkind : ∀ n, ∀ x ∈ binds, fd.scope.names.lookup x.1 = some .local ∨ (fd.scope.names.lookup x.1 = some .cell ∧ ((cellsFrom n fd.scope.names []).lookup x.1).isSome = true))
    (hcs : ∀ n, ∀ x ∈ N', x.2 = true → ((cellsFrom n fd.scope.names []).lookup x.1).isSome = true)
    (nd : (N'.map (·.1)).Nodup) (hchk : envChk fd.scope.names N' (G.map (·.1)) = true)
    (hv : Init (bindL (fun x => fd.scope.names.lookup x) binds fun _ => none) (bindC (fun x => fd.scope.names.lookup x) binds fun _ => none) N' l')
    (h : ∀ env A' L' (κ : Str → Option Addr) φ' s', (∀ x ∈ N', x.2 = true → κ x.1 ≠ none) → EnvOk env L' (N'.map fun x => (x.1, cond x.2 (κ x.1) none)) → EnvG B env G → Deeper A A' → St B L' (N'.map fun x => (x.1, cond x.2 (κ x.1) none)) l' σ φ' s₀ s' →
      wpAny (model prog w) A' (execs body env) (fld fun fl s'' => ∃ l'' σ', St B L' (N'.map fun x => (x.1, cond x.2 (κ x.1) none)) l'' σ' φ' s₀ s'' ∧ Post (retOf fl) σ') Nev s')
    (k : ∀ v σ' s'', Post v σ' → St B L N l σ' φ s₀ s'' → Rs (.ok (.ret v)) s'')
    (hco : fd.scope.isCoroutine = false := by rfl) (hgen : fd.scope.isGenerator = false := by rfl) (hk : fd.scope.kind = .function := by rfl) :
    codeAny (model prog w) A (.call (.ref f) ⟨args, []⟩) Rs s :=
  code_stF N' l' G Post S hroom hlim hG ho hdata hcd hbody hbind hclo hglo hblt hkind hcs nd hchk hv (fun env A' L' κ φ' s' a b c d _ f => h env A' L' κ φ' s' a b c d f) k hco hgen hk

/-- the same within an expression -/
theorem call_st {f : Addr} {fo : Obj} {fd : FuncData} {body : List Stmt} {args : List Value} {binds : List (Str × Value)} {Q : Value → Shared → Prop} (N' : List (Str × Bool)) (l' : List (Option Value)) (G : List (Str × Value)) (Post : Value → Own → Prop)
    (S : St B L N l σ φ s₀ s) (hroom : A.depth < recursionLimit) (hlim : B.NoLimit) (hG : ∀ p ∈ G, GlobIs B p.1 p.2) (ho : B.get? f = some fo) (hdata : fo.data = .func fd) (hcd : B.CodeRec fd.code fd.qualname) (hbody : fd.body = .stmts body)
    (hbind : bindArgs fd ⟨args, []⟩ = pure binds) (hclo : fd.closure = []) (hglo : fd.globals = mainGlobals) (hblt : fd.builtins = builtinsNs)
    (hkind : ∀ n, ∀ x ∈ binds, fd.scope.names.lookup x.1 = some .local ∨ (fd.scope.names.lookup x.1 = some .cell ∧ ((cellsFrom n fd.scope.names []).lookup x.1).isSome = true))
    (hcs : ∀ n, ∀ x ∈ N', x.2 = true → ((cellsFrom n fd.scope.names []).lookup x.1).isSome = true)
    (nd : (N'.map (·.1)).Nodup) (hchk : envChk fd.scope.names N' (G.map (·.1)) = true)
    (hv : Init (bindL (fun x => fd.scope.names.lookup x) binds fun _ => none) (bindC (fun x => fd.scope.names.lookup x) binds fun _ => none) N' l')
    (h : ∀ env A' L' (κ : Str → Option Addr) φ' s', (∀ x ∈ N', x.2 = true → κ x.1 ≠ none) → EnvOk env L' (N'.map fun x => (x.1, cond x.2 (κ x.1) none)) → EnvG B env G → Deeper A A' → St B L' (N'.map fun x => (x.1, cond x.2 (κ x.1) none)) l' σ φ' s₀ s' →
      wpAny (model prog w) A' (execs body env) (fld fun fl s'' => ∃ l'' σ', St B L' (N'.map fun x => (x.1, cond x.2 (κ x.1) none)) l'' σ' φ' s₀ s'' ∧ Post (retOf fl) σ') Nev s')
    (k : ∀ v σ' s'', Post v σ' → St B L N l σ' φ s₀ s'' → Q v s'')
    (hco : fd.scope.isCoroutine = false := by rfl) (hgen : fd.scope.isGenerator = false := by rfl) (hk : fd.scope.kind = .function := by rfl) :
    wpAny (model prog w) A (call (.ref f) args) Q E s :=
  wpAny_call (code_st N' l' G Post S hroom hlim hG ho hdata hcd hbody hbind hclo hglo hblt hkind hcs nd hchk hv h (fun v σ' s'' p S' => k v σ' s'' p S') hco hgen hk)

/-- the same within an expression -/
theorem call_stF {f : Addr} {fo : Obj} {fd : FuncData} {body : List Stmt} {args : List Value} {binds : List (Str × Value)} {Q : Value → Shared → Prop} (N' : List (Str × Bool)) (l' : List (Option Value)) (G : List (Str × Value)) (Post : Value → Own → Prop)
    (S : St B L N l σ φ s₀ s) (hroom : A.depth < recursionLimit) (hlim : B.NoLimit) (hG : ∀ p ∈ G, GlobIs B p.1 p.2) (ho : B.get? f = some fo) (hdata : fo.data = .func fd) (hcd : B.CodeRec fd.code fd.qualname) (hbody : fd.body = .stmts body)
    (hbind : bindArgs fd ⟨args, []⟩ = pure binds) (hclo : fd.closure = []) (hglo : fd.globals = mainGlobals) (hblt : fd.builtins = builtinsNs)
    (hkind : ∀ n, ∀ x ∈ binds, fd.scope.names.lookup x.1 = some .local ∨ (fd.scope.names.lookup x.1 = some .cell ∧ ((cellsFrom n fd.scope.names []).lookup x.1).isSome = true))
    (hcs : ∀ n, ∀ x ∈ N', x.2 = true → ((cellsFrom n fd.scope.names []).lookup x.1).isSome = true)
    (nd : (N'.map (·.1)).Nodup) (hchk : envChk fd.scope.names N' (G.map (·.1)) = true)
    (hv : Init (bindL (fun x => fd.scope.names.lookup x) binds fun _ => none) (bindC (fun x => fd.scope.names.lookup x) binds fun _ => none) N' l')
    (h : ∀ env A' L' (κ : Str → Option Addr) φ' s', (∀ x ∈ N', x.2 = true → κ x.1 ≠ none) → EnvOk env L' (N'.map fun x => (x.1, cond x.2 (κ x.1) none)) → EnvG B env G → Deeper A A' → (FmAny A φ B L → Fm A' φ' B env L') → St B L' (N'.map fun x => (x.1, cond x.2 (κ x.1) none)) l' σ φ' s₀ s' →
      wpAny (model prog w) A' (execs body env) (fld fun fl s'' => ∃ l'' σ', St B L' (N'.map fun x => (x.1, cond x.2 (κ x.1) none)) l'' σ' φ' s₀ s'' ∧ Post (retOf fl) σ') Nev s')
    (k : ∀ v σ' s'', Post v σ' → St B L N l σ' φ s₀ s'' → Q v s'')
    (hco : fd.scope.isCoroutine = false := by rfl) (hgen : fd.scope.isGenerator = false := by rfl) (hk : fd.scope.kind = .function := by rfl) :
    wpAny (model prog w) A (call (.ref f) args) Q E s :=
  wpAny_call (code_stF N' l' G Post S hroom hlim hG ho hdata hcd hbody hbind hclo hglo hblt hkind hcs nd hchk hv h (fun v σ' s'' p S' => k v σ' s'' p S') hco hgen hk)

/-- an if whose ways meet -/
theorem if_j (K : List (Option Value) → Own → Prop) {test : Expr} {body orelse : List Stmt} {pos : Pos} {Q : Flow → Shared → Prop} (_ : St B L N l σ φ s₀ s)
    (h : wpAny (model prog w) A (isTrue test env (eval test env)) (fld fun b s₂ => if b = true then wpAny (model prog w) A (execs body env) (fld fun f s' => f = .next ∧ ∃ l σ, K l σ ∧ St B L N l σ φ s₀ s') E s₂
      else wpAny (model prog w) A (execs orelse env) (fld fun f s' => f = .next ∧ ∃ l σ, K l σ ∧ St B L N l σ φ s₀ s') E s₂) E s)
    (fin : ∀ l σ s, K l σ → St B L N l σ φ s₀ s → Q .next s) : wpAny (model prog w) A (exec (.If test body orelse pos) env) Q E s := by
  dsimp only [fld] at h
  refine wpAny_If (wpAny_mono h (fun b s₂ h₂ => ?_) fun _ _ h => h)
  cases b with
  | true => simp only [if_true] at h₂ ⊢; exact wpAny_mono h₂ (fun f s' ⟨e, l, σ, k, S⟩ => by subst e; exact fin l σ s' k S) fun _ _ h => h
  | false => simp only [Bool.false_eq_true, if_false] at h₂ ⊢; exact wpAny_mono h₂ (fun f s' ⟨e, l, σ, k, S⟩ => by subst e; exact fin l σ s' k S) fun _ _ h => h

/-- a while: J m l σ, m falls -/
theorem while_j (J : Nat → List (Option Value) → Own → Prop) {test : Expr} {body orelse : List Stmt} {pos : Pos} {Q : Flow → Shared → Prop} (m : Nat)
    (S : St B L N l σ φ s₀ s) (j : J m l σ)
    (turn : ∀ m l σ s, J m l σ → St B L N l σ φ s₀ s → wpAny (model prog w) A (isTrue test env (eval test env)) (fld fun t s₂ =>
      if t = true then wpAny (model prog w) A (execs body env) (fld fun f s₃ => match f with
          | .next | .cont => ∃ m' l' σ', m' < m ∧ J m' l' σ' ∧ St B L N l' σ' φ s₀ s₃
          | .brk => Q .next s₃
          | .ret v => Q (.ret v) s₃) Nev s₂
      else wpAny (model prog w) A (execs orelse env) Q Nev s₂) Nev s) :
    wpAny (model prog w) A (exec (.While test body orelse pos) env) Q E s := by
  dsimp only [fld] at turn
  refine wpAny_mono (E := Nev) (Q := Q) ?_ (fun _ _ h => h) fun _ _ h => h.elim
  refine wpAny_While ?_
  refine codeAny_whileLoop (fun n s => ∃ l σ, J n l σ ∧ St B L N l σ φ s₀ s) ?_ m ⟨l, σ, j, S⟩
  rintro n s ⟨l, σ, j, S'⟩
  refine wpAny_mono (turn n l σ s j S') (fun t s₂ h => ?_) fun _ _ h => h.elim
  cases t with
  | true =>
    simp only [if_true] at h ⊢
    refine wpAny_mono h (fun f s₃ h₃ => ?_) fun _ _ h => h.elim
    cases f with
    | next => obtain ⟨m', l', σ', hm, j', S''⟩ := h₃; exact ⟨m', hm, l', σ', j', S''⟩
    | cont => obtain ⟨m', l', σ', hm, j', S''⟩ := h₃; exact ⟨m', hm, l', σ', j', S''⟩
    | brk => exact h₃
    | ret v => exact h₃
  | false =>
    simp only [Bool.false_eq_true, if_false] at h ⊢
    exact wpAny_mono h (fun f s₃ h₃ => h₃) fun _ _ h => h.elim

/-- a while without else that may break: K behind it -/
theorem while_q (J : Nat → List (Option Value) → Own → Prop) (K : List (Option Value) → Own → Prop) {test : Expr} {body : List Stmt} {pos : Pos} {Q : Flow → Shared → Prop} (m : Nat)
    (S : St B L N l σ φ s₀ s) (j : J m l σ)
    (turn : ∀ m l σ s, J m l σ → St B L N l σ φ s₀ s → wpAny (model prog w) A (isTrue test env (eval test env)) (fld fun t s₂ =>
      if t = true then wpAny (model prog w) A (execs body env) (fld fun f s₃ => match f with
          | .next | .cont => ∃ m' l' σ', m' < m ∧ J m' l' σ' ∧ St B L N l' σ' φ s₀ s₃
          | .brk => ∃ l' σ', K l' σ' ∧ St B L N l' σ' φ s₀ s₃
          | .ret _ => False) Nev s₂
      else ∃ l' σ', K l' σ' ∧ St B L N l' σ' φ s₀ s₂) Nev s)
    (fin : ∀ l σ s, K l σ → St B L N l σ φ s₀ s → Q .next s) :
    wpAny (model prog w) A (exec (.While test body [] pos) env) Q E s := by
  dsimp only [fld] at turn
  refine while_j J m S j fun m l σ s j S => wpAny_mono (turn m l σ s j S) (fun t s₂ h => ?_) fun _ _ h => h
  cases t with
  | true =>
    simp only [if_true] at h ⊢
    refine wpAny_mono h (fun f s₃ h₃ => ?_) fun _ _ h => h
    cases f with
    | next => exact h₃
    | cont => exact h₃
    | brk => obtain ⟨l', σ', k, S'⟩ := h₃; exact fin l' σ' s₃ k S'
    | ret v => exact h₃.elim
  | false =>
    simp only [Bool.false_eq_true, if_false] at h ⊢
    obtain ⟨l', σ', k, S'⟩ := h
    exact wpAny_execs_nil (fin l' σ' s₂ k S')

/-- what an iterator does: its own object says how far it is, need says what it leans on -/
structure Itr (prog : Program) (w : World) (A : Around) (I : Addr) (n : Nat) (P : Nat → Value → Prop) (At : Nat → Obj → Prop) (need : Own → Prop) : Prop where
  item : ∀ i (s : Shared) (σ : Own) (o : Obj) (Q : Option Value → Shared → Prop) (E : Value → Shared → Prop), i < n → s.heap.get? I = some o → At i o → need σ → σ I = none → (∀ a P, σ a = some P → ∃ o, s.heap.get? a = some o ∧ P o) →
    (∀ v h' tk, P i v → (∃ o', h'.get? I = some o' ∧ At (i + 1) o') → KeepBut I s.heap h' → Q (some v) { s with heap := h', toks := tk }) → wpAny (model prog w) A (pyNext (.ref I)) Q E s
  done : ∀ (s : Shared) (σ : Own) (o : Obj) (Q : Option Value → Shared → Prop) (E : Value → Shared → Prop), s.heap.get? I = some o → At n o → need σ → σ I = none → (∀ a P, σ a = some P → ∃ o, s.heap.get? a = some o ∧ P o) →
    (∀ h' tk, KeepBut I s.heap h' → Q none { s with heap := h', toks := tk }) → wpAny (model prog w) A (pyNext (.ref I)) Q E s
  self : ∀ i (s : Shared) (o : Obj) (Q : Value → Shared → Prop) (E : Value → Shared → Prop), s.heap.get? I = some o → At i o → Q (.ref I) s → wpAny (model prog w) A (pyIter (.ref I)) Q E s
/-- an iterator stands ready, all its own -/
structure Ready (prog : Program) (w : World) (A : Around) (B : Heap) (L : Addr) (N : List (Str × Option Addr)) (l : List (Option Value)) (σ : Own) (φ : Frz) (s₀ : Shared) (n : Nat) (P : Nat → Value → Prop) (need : Own → Prop) (it : Value) (s : Shared) : Prop where
  ex : ∃ I At, it = .ref I ∧ Itr prog w A I n P At need ∧ σ I = none ∧ need σ ∧ St B L N l (upd σ I (At 0)) φ s₀ s

theorem upd_none {σ : Own} {a : Addr} {P : Obj → Prop} {b : Addr} {Q : Obj → Prop} (h : σ a = none) (e : σ b = some Q) : upd σ a P b = some Q := by
  unfold upd; rw [if_neg]; exact e
  intro q; subst q; rw [h] at e; cases e

theorem for_jxF {τ : Type} (n : Nat) (P : Nat → Value → Prop) (need : τ → Own → Prop) (J : τ → Nat → List (Option Value) → Own → Prop) {x : Str} {px pos : Pos} {iter : Expr} {body : List Stmt} {Q : Flow → Shared → Prop} (_ : St B L N l σ φ s₀ s)
    (hi : wpAny (model prog w) A (eval iter env) (fld fun xv s₁ => wpAny (model prog w) A (pyIter xv) (fun it s₂ => ∃ (y : τ) (l : List (Option Value)) (σ : Own), Ready prog w A B L N l σ φ s₀ n P (need y) it s₂ ∧ J y 0 l σ) E s₁) E s)
    (hneed : ∀ y i l σ, J y i l σ → need y σ)
    (turn : ∀ y i v l σ φ' s, (∀ a P, φ a = some P → φ' a = some P) → i < n → P i v → J y i l σ → St B L N l σ φ' s₀ s → wpAny (model prog w) A (storeName env x v) (fun _ s₁ => wpAny (model prog w) A (execs body env) (fld fun f s₂ => match f with
      | .next | .cont => ∃ l' σ', J y (i + 1) l' σ' ∧ St B L N l' σ' φ' s₀ s₂
      | _ => False) Nev s₁) Nev s)
    (fin : ∀ y l σ s, J y n l σ → St B L N l σ φ s₀ s → Q .next s)
    (hs : ∀ x, foldedSetIterable iter env x = pure x := by intro _; rfl) :
    wpAny (model prog w) A (exec (.For (.Name x px) iter body [] pos) env) Q E s := by
  dsimp only [fld] at turn hi
  refine wpAny_For (wpAny_mono hi (fun xv s₁ h₁ => wpAny_mono h₁ (fun it s₂ h₂ => ?_) fun _ _ h => h) fun _ _ h => h) hs
  obtain ⟨y, l₁, σ₁, ⟨I, At, rfl, IT, hI, hn, S₁⟩, j₁⟩ := h₂
  refine codeAny_forLoop (fun c s => ∃ i l σ, i ≤ n ∧ c = n + 1 - i ∧ J y i l σ ∧ σ I = none ∧ St B L N l (upd σ I (At i)) φ s₀ s) ?_ (n + 1) ⟨0, l₁, σ₁, Nat.zero_le _, rfl, j₁, hI, S₁⟩
  rintro c s ⟨i, l, σ, hin, rfl, j, hI, S⟩
  obtain ⟨oI, hoI, hat⟩ := S.own I _ upd_self
  have hown : ∀ a P, σ a = some P → ∃ o, s.heap.get? a = some o ∧ P o := fun a P q => S.own a P (upd_none hI q)
  by_cases hlt : i < n
  · refine IT.item i s σ oI _ _ hlt hoI hat (hneed y i l σ j) hI hown fun v h' tk hP ho' hk => ?_
    have S2 : St B L N l (upd (upd σ I (At i)) I (At (i + 1))) φ s₀ { s with heap := h', toks := tk } := S.change upd_self hk ho' tk
    rw [upd_upd] at S2
    obtain ⟨oI', hoI', hat'⟩ := ho'
    -- the iterator is laid aside
    have S3 : St B L N l σ (fun a => if a = I then some (fun o => o = oI') else φ a) s₀ { s with heap := h', toks := tk } := by
      have hIL : I ≠ L := (by first | exact ne_sn S2.offσ upd_self | exact ne_ns S2.offσ upd_self | exact ne_sn upd_self S2.offσ | exact ne_ns upd_self S2.offσ)
      refine { (S2.forget (σ' := σ) fun a P q => upd_none hI q) with offφ := by rw [if_neg (Ne.symm hIL)]; exact S2.offφ, cells := fun x c hm => ?_, frm := fun a o q => ?_, apart := fun a q => ?_ }
      · obtain ⟨h1, h2, h3, h4⟩ := S2.cells x c hm
        have hc : c ≠ I := (by first | exact ne_sn h3 upd_self | exact ne_ns h3 upd_self | exact ne_sn upd_self h3 | exact ne_ns upd_self h3)
        exact ⟨h1, h2, by rwa [upd_ne hc] at h3, by rw [if_neg hc]; exact h4⟩
      · split at q
        · cases q; rename_i q; subst q; exact ⟨oI', hoI', rfl⟩
        · exact S2.frm a o q
      · have hc : a ≠ I := fun q' => by subst q'; exact q hI
        rw [if_neg hc]; exact S2.apart a (by rw [upd_ne hc]; exact q)
    have hφ : ∀ a P, φ a = some P → (fun a => if a = I then some (fun o => o = oI') else φ a) a = some P := fun a P q => by
      have h0 : φ I = none := S2.apart I (by rw [upd_self]; exact fun e => by cases e)
      have hc : a ≠ I := (by first | exact ne_sn q h0 | exact ne_ns q h0 | exact ne_sn h0 q | exact ne_ns h0 q)
      simp only [if_neg hc]; exact q
    refine wpAny_mono (wpAny_assign_Name (turn y i v l σ _ _ hφ hlt hP j S3)) (fun _ s₄ h₄ => wpAny_mono h₄ (fun f s₅ h₅ => ?_) fun _ _ h => h.elim) fun _ _ h => h.elim
    have back : ∀ l' σ', J y (i + 1) l' σ' → St B L N l' σ' (fun a => if a = I then some (fun o => o = oI') else φ a) s₀ s₅ → ∃ m, m < n + 1 - i ∧ ∃ i' l σ, i' ≤ n ∧ m = n + 1 - i' ∧ J y i' l σ ∧ σ I = none ∧ St B L N l (upd σ I (At i')) φ s₀ s₅ := by
      intro l' σ' j' S'
      have hIn : σ' I = none := by
        cases q : σ' I with
        | none => rfl
        | some P => have := S'.apart I (by rw [q]; exact fun e => by cases e); simp at this
      refine ⟨n + 1 - (i + 1), by omega, i + 1, l', σ', hlt, rfl, j', hIn, ?_⟩
      have hφI : φ I = none := S2.apart I (by rw [upd_self]; exact fun e => by cases e)
      have S'' : St B L N l' σ' φ s₀ s₅ := { S' with
        offφ := by have := S'.offφ; split at this; cases this; exact this
        cells := fun x c hm => by
          obtain ⟨h1, h2, h3, h4⟩ := S'.cells x c hm
          refine ⟨h1, h2, h3, ?_⟩
          split at h4; cases h4; exact h4
        frm := fun a o q => S'.frm a o (by rw [if_neg ((by first | exact ne_sn q hφI | exact ne_ns q hφI | exact ne_sn hφI q | exact ne_ns hφI q))]; exact q)
        apart := fun a q => by
          have := S'.apart a q
          split at this; cases this; exact this }
      obtain ⟨oI2, hoI2, e2⟩ := S'.frm I (fun o => o = oI') (if_pos rfl)
      refine S''.take ⟨oI', e2 ▸ hoI2, hat'⟩ (fun q => ?_) (fun x c hm q => ?_) (S2.ownB I (by rw [upd_self]; exact fun e => by cases e)) hφI
      · have := S'.offφ; rw [if_pos q.symm] at this; cases this
      · have := (S'.cells x c hm).2.2.2; rw [if_pos q] at this; cases this
    cases f with
    | next => obtain ⟨l', σ', j', S'⟩ := h₅; exact back l' σ' j' S'
    | cont => obtain ⟨l', σ', j', S'⟩ := h₅; exact back l' σ' j' S'
    | brk => exact h₅.elim
    | ret v => exact h₅.elim
  · have hin' : i = n := by omega
    subst hin'
    refine IT.done s σ oI _ _ hoI hat (hneed y _ l σ j) hI hown fun h' tk hk => ?_
    refine wpAny_execs_nil (fin y l σ _ j ?_)
    -- the iterator is given up
    have S0 := S.forget (σ' := σ) fun a P q => upd_none hI q
    have hIL : L ≠ I := (by first | exact ne_sn S.offσ upd_self | exact ne_ns S.offσ upd_self | exact ne_sn upd_self S.offσ | exact ne_ns upd_self S.offσ)
    obtain ⟨m, hnm, hv⟩ := S.vars
    have hIB : B.get? I = none := S.ownB I (by rw [upd_self]; exact fun e => by cases e)
    have hφI : φ I = none := S.apart I (by rw [upd_self]; exact fun e => by cases e)
    exact { S0 with
      base := fun b o q => hk b o ((by first | exact ne_sn q hIB | exact ne_ns q hIB | exact ne_sn hIB q | exact ne_ns hIB q)) (S.base b o q)
      vars := ⟨m, (let ⟨o, es, ep, a, r⟩ := hnm; ⟨o, es, ep, hk L o hIL a, r⟩), hv.heap fun x c v hm ⟨o, q, r⟩ => ⟨o, hk c o ((by first | exact ne_sn ((S.cells x c hm).2.2.1) upd_self | exact ne_ns ((S.cells x c hm).2.2.1) upd_self | exact ne_sn upd_self ((S.cells x c hm).2.2.1) | exact ne_ns upd_self ((S.cells x c hm).2.2.1))) q, r⟩⟩
      own := fun a P q => by
        obtain ⟨o, ho, p⟩ := hown a P q
        exact ⟨o, hk a o ((by first | exact ne_sn q hI | exact ne_ns q hI | exact ne_sn hI q | exact ne_ns hI q)) ho, p⟩
      frm := fun a P q => let ⟨o, ho, p⟩ := S.frm a P q; ⟨o, hk a o ((by first | exact ne_sn q hφI | exact ne_ns q hφI | exact ne_sn hφI q | exact ne_ns hφI q)) ho, p⟩ }
theorem for_jx {τ : Type} (n : Nat) (P : Nat → Value → Prop) (need : τ → Own → Prop) (J : τ → Nat → List (Option Value) → Own → Prop) {x : Str} {px pos : Pos} {iter : Expr} {body : List Stmt} {Q : Flow → Shared → Prop} (S : St B L N l σ φ s₀ s)
    (hi : wpAny (model prog w) A (eval iter env) (fld fun xv s₁ => wpAny (model prog w) A (pyIter xv) (fun it s₂ => ∃ (y : τ) (l : List (Option Value)) (σ : Own), Ready prog w A B L N l σ φ s₀ n P (need y) it s₂ ∧ J y 0 l σ) E s₁) E s)
    (hneed : ∀ y i l σ, J y i l σ → need y σ)
    (turn : ∀ y i v l σ φ' s, i < n → P i v → J y i l σ → St B L N l σ φ' s₀ s → wpAny (model prog w) A (storeName env x v) (fun _ s₁ => wpAny (model prog w) A (execs body env) (fld fun f s₂ => match f with
      | .next | .cont => ∃ l' σ', J y (i + 1) l' σ' ∧ St B L N l' σ' φ' s₀ s₂
      | _ => False) Nev s₁) Nev s)
    (fin : ∀ y l σ s, J y n l σ → St B L N l σ φ s₀ s → Q .next s)
    (hs : ∀ x, foldedSetIterable iter env x = pure x := by intro _; rfl) :
    wpAny (model prog w) A (exec (.For (.Name x px) iter body [] pos) env) Q E s :=
  for_jxF n P need J S hi hneed (fun y i v l σ φ' s _ => turn y i v l σ φ' s) fin hs
theorem for_j (n : Nat) (P : Nat → Value → Prop) (need : Own → Prop) (J : Nat → List (Option Value) → Own → Prop) {x : Str} {px pos : Pos} {iter : Expr} {body : List Stmt} {Q : Flow → Shared → Prop} (S : St B L N l σ φ s₀ s)
    (hi : wpAny (model prog w) A (eval iter env) (fld fun xv s₁ => wpAny (model prog w) A (pyIter xv) (fun it s₂ => ∃ l σ, Ready prog w A B L N l σ φ s₀ n P need it s₂ ∧ J 0 l σ) E s₁) E s)
    (hneed : ∀ i l σ, J i l σ → need σ)
    (turn : ∀ i v l σ φ' s, i < n → P i v → J i l σ → St B L N l σ φ' s₀ s → wpAny (model prog w) A (storeName env x v) (fun _ s₁ => wpAny (model prog w) A (execs body env) (fld fun f s₂ => match f with
      | .next | .cont => ∃ l' σ', J (i + 1) l' σ' ∧ St B L N l' σ' φ' s₀ s₂
      | _ => False) Nev s₁) Nev s)
    (fin : ∀ l σ s, J n l σ → St B L N l σ φ s₀ s → Q .next s)
    (hs : ∀ x, foldedSetIterable iter env x = pure x := by intro _; rfl) :
    wpAny (model prog w) A (exec (.For (.Name x px) iter body [] pos) env) Q E s :=
  for_jx (τ := Unit) n P (fun _ => need) (fun _ => J) S (wpAny_mono hi (fun _ _ h => wpAny_mono h (fun _ _ ⟨l, σ, r, j⟩ => ⟨(), l, σ, r, j⟩) fun _ _ x => x) fun _ _ x => x) (fun _ => hneed) (fun _ => turn) (fun _ => fin) hs
theorem for_jF (n : Nat) (P : Nat → Value → Prop) (need : Own → Prop) (J : Nat → List (Option Value) → Own → Prop) {x : Str} {px pos : Pos} {iter : Expr} {body : List Stmt} {Q : Flow → Shared → Prop} (S : St B L N l σ φ s₀ s)
    (hi : wpAny (model prog w) A (eval iter env) (fld fun xv s₁ => wpAny (model prog w) A (pyIter xv) (fun it s₂ => ∃ l σ, Ready prog w A B L N l σ φ s₀ n P need it s₂ ∧ J 0 l σ) E s₁) E s)
    (hneed : ∀ i l σ, J i l σ → need σ)
    (turn : ∀ i v l σ φ' s, (∀ a P, φ a = some P → φ' a = some P) → i < n → P i v → J i l σ → St B L N l σ φ' s₀ s → wpAny (model prog w) A (storeName env x v) (fun _ s₁ => wpAny (model prog w) A (execs body env) (fld fun f s₂ => match f with
      | .next | .cont => ∃ l' σ', J (i + 1) l' σ' ∧ St B L N l' σ' φ' s₀ s₂
      | _ => False) Nev s₁) Nev s)
    (fin : ∀ l σ s, J n l σ → St B L N l σ φ s₀ s → Q .next s)
    (hs : ∀ x, foldedSetIterable iter env x = pure x := by intro _; rfl) :
    wpAny (model prog w) A (exec (.For (.Name x px) iter body [] pos) env) Q E s :=
  for_jxF (τ := Unit) n P (fun _ => need) (fun _ => J) S (wpAny_mono hi (fun _ _ h => wpAny_mono h (fun _ _ ⟨l, σ, r, j⟩ => ⟨(), l, σ, r, j⟩) fun _ _ x => x) fun _ _ x => x) (fun _ => hneed) (fun _ => turn) (fun _ => fin) hs
end
end
section
open PySem PySem.W PyProof.Rows
def IsL (vs : List Value) (o : Obj) : Prop := ∃ n, o = { cls := .type "list", dict := none, data := .seq vs.toArray n, slots := #[] }
def IsTp (vs : List Value) (o : Obj) : Prop := ∃ n, o = { cls := .type "tuple", dict := none, data := .seq vs.toArray n, slots := #[] }
def IsRg (a b c : Int) (o : Obj) : Prop := ∃ t u v, o = { cls := .type "range", dict := none, data := .fields #[.int a t, .int b u, .int c v], slots := #[] }

section
variable {B : Heap} {L : Addr} {N : List (Str × Option Addr)} {l : List (Option Value)} {σ : Own} {φ : Frz} {s₀ s : Shared}
variable {prog : Program} {w : World} {A : Around} {E : Value → Shared → Prop} {env : Env}

theorem St.isL {a : Addr} {vs : List Value} (S : St B L N l σ φ s₀ s) (h : σ a = some (IsL vs)) : ∃ n, PySem.IsL s.heap a vs.toArray n :=
  by obtain ⟨_, ho, n, rfl⟩ := S.own a _ h; exact ⟨n, ho⟩
theorem St.list {a : Addr} {vs : List Value} (S : St B L N l σ φ s₀ s) (h : σ a = some (IsL vs)) : s.heap.IsList a vs.toArray :=
  let ⟨_, ho⟩ := S.isL h
  ⟨_, ho, rfl, _, rfl⟩
theorem St.isTp {a : Addr} {vs : List Value} (S : St B L N l σ φ s₀ s) (h : σ a = some (IsTp vs)) : ∃ n, s.heap.get? a = some { cls := .type "tuple", dict := none, data := .seq vs.toArray n, slots := #[] } :=
  by obtain ⟨_, ho, n, rfl⟩ := S.own a _ h; exact ⟨n, ho⟩
/-- a list is changed by a function of its items -/
theorem St.turn {a : Addr} {vs vs' : List Value} {n : Nat} (S : St B L N l σ φ s₀ s) (h : σ a = some (IsL vs)) (ho : PySem.IsL s.heap a vs.toArray n) (f : Array Value → Array Value) (hf : f vs.toArray = vs'.toArray) (t : Nat) :
    St B L N l (upd σ a (IsL vs')) φ s₀ { s with heap := s.heap.update a (Obj.mapSeq f), toks := t } :=
  S.change h (KeepBut.of (Heap.SameBut.update ..)) ⟨_, PySem.IsL.update ho f, _, by rw [hf]⟩ t

theorem item_l {value slice : Expr} {a : Addr} {vs : List Value} {k : Int} {u : Tok} {x : Value} {Q : Value → Shared → Prop} (S : St B L N l σ φ s₀ s) (h : σ a = some (IsL vs))
    (h0 : 0 ≤ k) (hfit : k < 2 ^ 63) (hx : vs[k.toNat]? = some x) (hq : Q x s)
    (hs : subscripted slice false (.ref a) (.int k u) = operate [.ref a, .int k u] (getItem (.ref a) (.int k u)) := by with_unfolding_all rfl) :
    wpAny (model prog w) A (subscriptTail value slice (.ref a) (.int k u)) Q E s :=
  tail_any (S.list h).typeIs slot_list_getitem.lookup (wpAny_getItem_list (S.list h) h0 hfit (by simpa using hx) hq) hs
theorem set_l {a : Addr} {vs : List Value} {k : Int} {u : Tok} {v : Value} {Q : Unit → Shared → Prop} (S : St B L N l σ φ s₀ s) (h : σ a = some (IsL vs))
    (h0 : 0 ≤ k) (hfit : k < 2 ^ 63) (hn : k < vs.length) (hq : ∀ s', St B L N l (upd σ a (IsL (vs.set k.toNat v))) φ s₀ s' → Q () s') :
    wpAny (model prog w) A (setItem (.ref a) (.int k u) v) Q E s := by
  obtain ⟨n, ho⟩ := S.isL h
  have hl : s.heap.IsList a vs.toArray := ⟨_, ho, rfl, n, rfl⟩
  have hfit' : k < 2 ^ 63 := hfit
  unfold setItem
  try with_reducible refine wpAny_holding ?_
  first | refine wpAny_bind (wpAny_pure ?_) | skip
  refine wpAny_bind (wpAny_sequenceKey hl.typeIs (by decide) ?_)
  refine wpAny_bind (wpAny_callSpecial?_slot (name := Str.ofString "__setitem__") hl.typeIs slot_list_setitem
    (wpAny_call_entry slot_list_setitem hl.typeIs entry_list_setitem ?_ (args_list_setitem _ _ _)))
  show wpAny _ _ (Builtin.List.listSubscript? (.int k u) >>= _) _ _ s
  refine wpAny_bind (wpAny_listSubscript_int (fitsIndex_of h0 hfit) ?_)
  clear hfit hfit'
  obtain ⟨j, rfl⟩ := Int.eq_ofNat_of_zero_le h0
  have hj : j < vs.toArray.size := by simp; omega
  have hx' : vs.toArray[j]? = some vs.toArray[j] := Array.getElem?_eq_getElem hj
  show wpAny _ _ ((seqItemAt a j >>= fun r => pure (r.map (j, ·))) >>= _) _ _ s
  refine wpAny_bind (wpAny_bind (wpAny_seqItemAt ho rfl (wpAny_pure ?_)))
  rw [hx']
  show wpAny _ _ (setSeqItemAt a j v >>= _) _ _ s
  have S' := S.turn h ho (fun xs => xs.setIfInBounds j v) (vs' := vs.set j v) (by simp) s.toks
  have := hq _ S'
  refine wpAny_bind (wpAny_setSeqItemAt ho rfl ?_)
  first
    | exact wpAny_bind (wpAny_pure (wpAny_pure ⟨.none, rfl, wpAny_pure this⟩))
    | exact wpAny_pure ⟨.none, rfl, wpAny_pure this⟩
theorem len_l {a : Addr} {vs : List Value} {Q : Value → Shared → Prop} (S : St B L N l σ φ s₀ s) (h : σ a = some (IsL vs)) (hfit : vs.length < 2 ^ 63)
    (hq : ∀ t s', St B L N l σ φ s₀ s' → Q (.int vs.length t) s') : wpAny (model prog w) A (call (.builtin "len") [.ref a]) Q E s := by
  have := len_list (prog := prog) (w := w) (A := A) (E := E) (Q := Q) (S.list h) (by simp; omega) (by simpa using hq _ _ (S.toks _))
  exact this
theorem truth_l {a : Addr} {vs : List Value} {Q : Bool → Shared → Prop} (S : St B L N l σ φ s₀ s) (h : σ a = some (IsL vs)) (hfit : vs.length < 2 ^ 63)
    (hq : ∀ s', St B L N l σ φ s₀ s' → Q (!vs.isEmpty) s') : wpAny (model prog w) A (truthy (.ref a)) Q E s :=
  wpAny_truthy_list (S.list h) (by simp; omega) (by simpa using hq _ (S.toks _))
/-- a method of a list -/
theorem method_l {a : Addr} {vs : List Value} {name : Str} {id : String} {pl : Sem Bool} {Q : Value × List Value → Shared → Prop} (S : St B L N l σ φ s₀ s) (h : σ a = some (IsL vs)) (slot : Slot "list" name id) (hty : typeOf (.builtin id) = pure (.type "method_descriptor"))
    (hq : Q (.builtin id, [.ref a]) s) : wpAny (model prog w) A (getMethod (.ref a) name pl) Q E s := by
  obtain ⟨n, ho⟩ := S.isL h
  exact getMethod_builtin ⟨_, ho, rfl⟩ PySem.F.plainAttrs_list slot hty (fun a e => by cases e; exact ⟨_, ho, rfl⟩) hq
theorem append_l {a : Addr} {vs : List Value} {v : Value} {Q : Value → Shared → Prop} (S : St B L N l σ φ s₀ s) (h : σ a = some (IsL vs)) (hz : vs.length ≤ sizeLine)
    (hq : ∀ s', St B L N l (upd σ a (IsL (vs ++ [v]))) φ s₀ s' → Q .none s') : wpAny (model prog w) A (call (.builtin "list.append") [.ref a, v]) Q E s := by
  obtain ⟨n, ho⟩ := S.isL h
  refine wpAny_list_append_plain ⟨n, ho⟩ (fun h' hl hs => hq _ ?_) (by simpa using hz)
  obtain ⟨n', ho'⟩ := hl
  have := S.change (P := IsL (vs ++ [v])) h (KeepBut.of hs) ⟨_, ho', n', by simp⟩ s.toks
  exact this
theorem pop_l {a : Addr} {vs : List Value} {y : Value} {Q : Value → Shared → Prop} (S : St B L N l σ φ s₀ s) (h : σ a = some (IsL (vs ++ [y]))) (hz : vs.length < sizeLine)
    (hq : ∀ s', St B L N l (upd σ a (IsL vs)) φ s₀ s' → Q y s') : wpAny (model prog w) A (call (.builtin "list.pop") [.ref a]) Q E s := by
  obtain ⟨n, ho⟩ := S.isL h
  have hk : (vs ++ [y]).toArray.size - 1 = vs.length := by simp
  refine call_meets PySem.F.slot_list_pop ⟨_, ho, rfl⟩ PySem.F.entry_list_pop (PySem.F.args_list_pop_1 _) (PySem.MeetsSeq.list_pop_last a _ n y (by rw [hk]; simp) (by simp; (clear hk; omega))) ⟨ho, hq _ ?_⟩
  refine S.turn h ho _ ?_ s.toks
  rw [hk]
  apply Array.toList_inj.mp
  simp
  rw [List.eraseIdx_append_of_length_le (Nat.le_refl _)]; simp
theorem clear_l {a : Addr} {vs : List Value} {Q : Value → Shared → Prop} (S : St B L N l σ φ s₀ s) (h : σ a = some (IsL vs)) (hz : vs.length ≤ sizeLine)
    (hq : ∀ s', St B L N l (upd σ a (IsL [])) φ s₀ s' → Q .none s') : wpAny (model prog w) A (call (.builtin "list.clear") [.ref a]) Q E s := by
  obtain ⟨n, ho⟩ := S.isL h
  refine call_meets PySem.F.slot_list_clear ⟨_, ho, rfl⟩ PySem.F.entry_list_clear (PySem.F.args_list_clear_1 _) (PySem.AutoSeq1.list_clear_list_0 a _ n (by simpa using hz)) ⟨ho, hq _ ?_⟩
  exact S.turn h ho _ rfl s.toks
theorem extend_l {a b : Addr} {vs us : List Value} {Q : Value → Shared → Prop} (S : St B L N l σ φ s₀ s) (h : σ a = some (IsL vs)) (hb : σ b = some (IsL us)) (hz : vs.length + us.length ≤ sizeLine)
    (hq : ∀ s', St B L N l (upd σ a (IsL (vs ++ us))) φ s₀ s' → Q .none s') : wpAny (model prog w) A (call (.builtin "list.extend") [.ref a, .ref b]) Q E s := by
  obtain ⟨n, ho⟩ := S.isL h
  obtain ⟨n2, ho2⟩ := S.isL hb
  have hz' := hz
  rw [sizeLine_eq] at hz'
  refine call_meets PySem.F.slot_list_extend ⟨_, ho, rfl⟩ PySem.F.entry_list_extend (PySem.F.args_list_extend_2 _ _) (PySem.AutoSeq1.list_extend_list_list_0 a _ n b _ n2 ?_ (by simp; omega) (by simp; omega)) ⟨ho, ho2, hq _ ?_⟩
  · intro c
    have := (Bool.and_eq_true_iff.mp c).2
    unfold Builtin.List.listTooLong at this
    simp at this
    omega
  · refine S.turn h ho _ ?_ s.toks
    apply Array.toList_inj.mp
    simp
theorem item_n {value slice : Expr} {a : Addr} {vs : List Value} {k : Nat} {u : Tok} {x : Value} {Q : Value → Shared → Prop} (S : St B L N l σ φ s₀ s) (h : σ a = some (IsL vs))
    (hfit : vs.length < 1000000) (hx : vs[k]? = some x) (hq : Q x s)
    (hs : subscripted slice false (.ref a) (.int k u) = operate [.ref a, .int k u] (getItem (.ref a) (.int k u)) := by with_unfolding_all rfl) :
    wpAny (model prog w) A (subscriptTail value slice (.ref a) (.int k u)) Q E s := by
  have := (List.getElem?_eq_some_iff.mp hx).1
  exact item_l S h (by omega) (by omega) (by simpa using hx) hq hs
theorem set_n {a : Addr} {vs : List Value} {k : Nat} {u : Tok} {v : Value} {Q : Unit → Shared → Prop} (S : St B L N l σ φ s₀ s) (h : σ a = some (IsL vs))
    (hfit : vs.length < 1000000) (hn : k < vs.length) (hq : ∀ s', St B L N l (upd σ a (IsL (vs.set k v))) φ s₀ s' → Q () s') :
    wpAny (model prog w) A (setItem (.ref a) (.int k u) v) Q E s :=
  set_l S h (by omega) (by omega) (by omega) (by simpa using hq)
/-! new things -/
theorem newList_l {vs : List Value} {Q : Value → Shared → Prop} (S : St B L N l σ φ s₀ s) (hz : vs.length ≤ sizeLine) (hq : ∀ a s', σ a = none → St B L N l (upd σ a (IsL vs)) φ s₀ s' → Q (.ref a) s') : wpAny (model prog w) A (newList vs) Q E s :=
  wpAny_newObj_type (hq _ _ S.fresh (S.alloc (P := IsL vs) rfl ⟨_, rfl⟩ s.toks)) (by show vs.toArray.size ≤ sizeLine; rw [List.size_toArray]; exact hz)
theorem newTuple_l {vs : List Value} {Q : Value → Shared → Prop} (S : St B L N l σ φ s₀ s) (hz : vs.length ≤ sizeLine) (hq : ∀ a s', σ a = none → St B L N l (upd σ a (IsTp vs)) φ s₀ s' → Q (.ref a) s') : wpAny (model prog w) A (newTuple vs) Q E s :=
  wpAny_newObj_type (hq _ _ S.fresh (S.alloc (P := IsTp vs) rfl ⟨_, rfl⟩ s.toks)) (by show vs.toArray.size ≤ sizeLine; rw [List.size_toArray]; exact hz)
/-! ints -/
section
variable {a b : Int} {t u : Tok} {Q : Value → Shared → Prop}
theorem add_v (S : St B L N l σ φ s₀ s) (h : ∀ t s', St B L N l σ φ s₀ s' → Q (.int (a + b) t) s') : wpAny (model prog w) A (binaryOp .Add (.int a t) (.int b u)) Q E s := PyProof.Rows.add_int (h _ _ (S.toks _))
theorem sub_v (S : St B L N l σ φ s₀ s) (h : ∀ t s', St B L N l σ φ s₀ s' → Q (.int (a - b) t) s') : wpAny (model prog w) A (binaryOp .Sub (.int a t) (.int b u)) Q E s := PyProof.Rows.sub_int (h _ _ (S.toks _))
theorem mul_v (S : St B L N l σ φ s₀ s) (h : ∀ t s', St B L N l σ φ s₀ s' → Q (.int (a * b) t) s') (hm : IntMulOk a b) : wpAny (model prog w) A (binaryOp .Mult (.int a t) (.int b u)) Q E s := PyProof.Rows.mul_int (h _ _ (S.toks _)) hm
theorem mod_v (S : St B L N l σ φ s₀ s) (hb : b ≠ 0) (h : ∀ t s', St B L N l σ φ s₀ s' → Q (.int (a.fmod b) t) s') : wpAny (model prog w) A (binaryOp .Mod (.int a t) (.int b u)) Q E s := PyProof.Rows.mod_int hb (h _ _ (S.toks _))
theorem fdiv_v (S : St B L N l σ φ s₀ s) (hb : b ≠ 0) (hs : b.natAbs < 1073741824) (h : ∀ t s', St B L N l σ φ s₀ s' → Q (.int (a.fdiv b) t) s') : wpAny (model prog w) A (binaryOp .FloorDiv (.int a t) (.int b u)) Q E s := PyProof.Rows.floordiv_int hb (h _ _ (S.toks _)) (.inl (PyProof.noPylong_small hs))
theorem rshift_v (S : St B L N l σ φ s₀ s) (h0 : 0 ≤ a) (h : ∀ t s', St B L N l σ φ s₀ s' → Q (.int (a / 2) t) s') : wpAny (model prog w) A (binaryOp .RShift (.int a t) (.int 1 u)) Q E s := wpAny_rshift1_int h0 (h _ _ (S.toks _))
theorem const_v {k : Nat} {pos : Pos} (S : St B L N l σ φ s₀ s) (h : ∀ t s', St B L N l σ φ s₀ s' → Q (.int a t) s') : wpAny (model prog w) A (eval (.Constant (.int a) k pos) env) Q E s := wpAny_Constant_int (h _ _ (S.toks _))
end
end
end
section
open PySem PySem.W PyProof.Rows
section
variable {B : Heap} {L : Addr} {N : List (Str × Option Addr)} {l : List (Option Value)} {σ : Own} {φ : Frz} {s₀ s : Shared}
variable {prog : Program} {w : World} {A : Around} {E : Value → Shared → Prop} {env : Env}

def needL (a : Addr) (vs : List Value) (σ : Own) : Prop := σ a = some (IsL vs)
def needT (a : Addr) (vs : List Value) (σ : Own) : Prop := σ a = some (IsTp vs)
def needN (_ : Own) : Prop := True

theorem itr_list (hh : A.handled = none) (I ax : Addr) (vs : List Value) :
    Itr prog w A I vs.length (fun i v => vs[i]? = some v) (fun i o => o.cls = .type "list_iterator" ∧ o.data = .fields #[.ref ax, .int i 0]) (needL ax vs) where
  item := fun i s σ o Q E hi ho hat hn hI hown hQ => by
    have hne : ax ≠ I := fun e => by subst e; unfold needL at hn; rw [hI] at hn; cases hn
    obtain ⟨ol, hol, n, rfl⟩ := hown ax _ hn
    have hl : s.heap.IsList ax vs.toArray := ⟨_, hol, rfl, n, rfl⟩
    refine wpAny_pyNext_list_item (i := i) (x := vs[i]) ⟨o, ho, hat⟩ hl (by simp [hi]) fun h' hit' hs' => ?_
    obtain ⟨o', ho', hat'⟩ := hit'
    exact hQ _ h' s.toks (by simp [hi]) ⟨o', ho', hat'⟩ fun b o hb e => (hs'.2 b hb).trans e
  done := fun s σ o Q E ho hat hn hI hown hQ => by
    have hne : ax ≠ I := fun e => by subst e; unfold needL at hn; rw [hI] at hn; cases hn
    obtain ⟨ol, hol, n, rfl⟩ := hown ax _ hn
    have hl : s.heap.IsList ax vs.toArray := ⟨_, hol, rfl, n, rfl⟩
    exact wpAny_pyNext_list_end (i := vs.length) hh ⟨o, ho, hat⟩ hl (by simp) fun h' he' => hQ h' s.toks fun b o hb e => he' b o hb e
  self := fun i s o Q E ho hat hQ => wpAny_pyIter_listiter (i := i) ⟨o, ho, hat⟩ hQ
theorem itr_tuple (hh : A.handled = none) (I ax : Addr) (vs : List Value) :
    Itr prog w A I vs.length (fun i v => vs[i]? = some v) (fun i o => o.cls = .type "tuple_iterator" ∧ o.data = .fields #[.ref ax, .int i 0]) (needT ax vs) where
  item := fun i s σ o Q E hi ho hat hn hI hown hQ => by
    have hne : ax ≠ I := fun e => by subst e; unfold needT at hn; rw [hI] at hn; cases hn
    obtain ⟨ol, hol, n, rfl⟩ := hown ax _ hn
    have hl : s.heap.IsTuple ax vs.toArray := ⟨_, hol, rfl, n, rfl⟩
    refine wpAny_pyNext_tuple_item (i := i) (x := vs[i]) ⟨o, ho, hat⟩ hl (by simp [hi]) fun h' hit' hs' => ?_
    obtain ⟨o', ho', hat'⟩ := hit'
    exact hQ _ h' s.toks (by simp [hi]) ⟨o', ho', hat'⟩ fun b o hb e => (hs'.2 b hb).trans e
  done := fun s σ o Q E ho hat hn hI hown hQ => by
    obtain ⟨ol, hol, n, rfl⟩ := hown ax _ hn
    have hl : s.heap.IsTuple ax vs.toArray := ⟨_, hol, rfl, n, rfl⟩
    exact wpAny_pyNext_tuple_end (i := vs.length) hh ⟨o, ho, hat⟩ hl (by simp) fun h' he' => hQ h' s.toks fun b o hb e => he' b o hb e
  self := fun i s o Q E ho hat hQ => wpAny_pyIter_tupleiter (i := i) ⟨o, ho, hat⟩ hQ
theorem itr_range (hh : A.handled = none) (I : Addr) (a c : Int) (n : Nat) :
    Itr prog w A I n (fun i v => ∃ t, v = .int (a + i * c) t) (fun i o => o = { cls := .type "range_iterator", dict := none, data := .fields #[rawInt (a + (i : Nat) * c), rawInt ((n : Int) - (i : Nat)), rawInt c], slots := #[] }) needN where
  item := fun i s σ o Q E hi ho hat hn hI hown hQ => by
    subst hat
    refine wpAny_pyNext_range_item ho (by omega) fun h' hit' hs' => ?_
    refine hQ _ h' _ ⟨_, rfl⟩ ⟨_, hit', ?_⟩ fun b o hb e => (hs'.2 b hb).trans e
    have e1 : a + ((i + 1 : Nat) : Int) * c = a + (i : Int) * c + c := by push_cast; rw [Int.add_mul, Int.one_mul, Int.add_assoc]
    have e2 : (n : Int) - ((i + 1 : Nat) : Int) = (n : Int) - (i : Int) - 1 := by push_cast; omega
    rw [e1, e2]
  done := fun s σ o Q E ho hat hn hI hown hQ => by
    subst hat
    exact wpAny_pyNext_range_end hh ho (by omega) fun h' he' => hQ h' s.toks fun b o hb e => he' b o hb e
  self := fun i s o Q E ho hat hQ => by
    subst hat
    exact wpAny_pyIter_rangeiter ho hQ

theorem iter_list {a : Addr} {vs : List Value} {Q : Value → Shared → Prop} (R : A.handled = none) (S : St B L N l σ φ s₀ s) (h : σ a = some (IsL vs))
    (hq : ∀ it s', Ready prog w A B L N l σ φ s₀ vs.length (fun i v => vs[i]? = some v) (needL a vs) it s' → Q it s') : wpAny (model prog w) A (pyIter (.ref a)) Q E s := by
  refine wpAny_pyIter_list (S.list h) (hq _ _ ⟨_, _, rfl, itr_list R s.heap.objs.size a vs, S.fresh, h, ?_⟩)
  exact S.alloc (P := fun o => o.cls = .type "list_iterator" ∧ o.data = .fields #[.ref a, .int (0 : Nat) 0]) rfl ⟨rfl, rfl⟩ s.toks
theorem iter_tuple {a : Addr} {vs : List Value} {Q : Value → Shared → Prop} (R : A.handled = none) (S : St B L N l σ φ s₀ s) (h : σ a = some (IsTp vs))
    (hq : ∀ it s', Ready prog w A B L N l σ φ s₀ vs.length (fun i v => vs[i]? = some v) (needT a vs) it s' → Q it s') : wpAny (model prog w) A (pyIter (.ref a)) Q E s := by
  obtain ⟨n, ho⟩ := S.isTp h
  refine wpAny_pyIter_tuple (items := vs.toArray) ⟨_, ho, rfl, n, rfl⟩ (hq _ _ ⟨_, _, rfl, itr_tuple R s.heap.objs.size a vs, S.fresh, h, ?_⟩)
  exact S.alloc (P := fun o => o.cls = .type "tuple_iterator" ∧ o.data = .fields #[.ref a, .int (0 : Nat) 0]) rfl ⟨rfl, rfl⟩ s.toks

/-! ranges -/
def fitsR (x : Int) : Prop := -1000000 ≤ x ∧ x ≤ 1000000
theorem fits_long {x : Int} (h : fitsR x) : Builtin.Range.rangeFitsLong x = true := by
  unfold Builtin.Range.rangeFitsLong
  unfold fitsR at h
  simp; omega
theorem size_one {a b : Int} : Builtin.Range.rangeSize a b 1 = ((b - a).toNat : Int) := by rw [rangeSize_one]; split <;> omega
theorem size_down {a b : Int} : Builtin.Range.rangeSize a b (-1) = ((a - b).toNat : Int) := by
  unfold Builtin.Range.rangeSize
  simp
  split <;> omega
theorem range_1 {n : Int} {t : Tok} {Q : Value → Shared → Prop} (S : St B L N l σ φ s₀ s) (hq : ∀ a s', σ a = none → St B L N l (upd σ a (IsRg 0 n 1)) φ s₀ s' → Q (.ref a) s') :
    wpAny (model prog w) A (call (.type "range") [.int n t]) Q E s :=
  call_range_1 (hq _ _ S.fresh (S.alloc (P := IsRg 0 n 1) rfl ⟨_, _, _, rfl⟩ _))
theorem range_2 {a b : Int} {t u : Tok} {Q : Value → Shared → Prop} (S : St B L N l σ φ s₀ s) (hq : ∀ r s', σ r = none → St B L N l (upd σ r (IsRg a b 1)) φ s₀ s' → Q (.ref r) s') :
    wpAny (model prog w) A (call (.type "range") [.int a t, .int b u]) Q E s :=
  call_range_2 (hq _ _ S.fresh (S.alloc (P := IsRg a b 1) rfl ⟨_, _, _, rfl⟩ _))
theorem range_3 {a b c : Int} {t u v : Tok} {Q : Value → Shared → Prop} (S : St B L N l σ φ s₀ s) (ha : fitsR a) (hb : fitsR b) (hc : c = 1 ∨ c = -1) (hq : ∀ r s', σ r = none → St B L N l (upd σ r (IsRg a b c)) φ s₀ s' → Q (.ref r) s') :
    wpAny (model prog w) A (call (.type "range") [.int a t, .int b u, .int c v]) Q E s := by
  refine call_range_3 (by omega) (hq _ _ S.fresh (S.alloc (P := IsRg a b c) rfl ⟨_, _, _, rfl⟩ _)) (.inl (PyProof.noPylong_small ?_))
  unfold fitsR at ha hb
  omega
theorem iter_range {r : Addr} {a b c : Int} {n : Nat} {Q : Value → Shared → Prop} (R : A.handled = none) (S : St B L N l (upd σ r (IsRg a b c)) φ s₀ s) (hr : σ r = none) (ha : fitsR a) (hb : fitsR b) (hc : c = 1 ∨ c = -1) (hn : Builtin.Range.rangeSize a b c = n)
    (hq : ∀ it s', Ready prog w A B L N l σ φ s₀ n (fun i v => ∃ t, v = .int (a + i * c) t) needN it s' → Q it s') : wpAny (model prog w) A (pyIter (.ref r)) Q E s := by
  obtain ⟨_, ho, t, u, v, rfl⟩ := S.own r _ upd_self
  have hfit : fitsR (n : Int) ∨ (n : Int) ≤ 2000000 := by
    right
    rcases hc with rfl | rfl
    · rw [size_one] at hn; unfold fitsR at ha hb; omega
    · rw [size_down] at hn; unfold fitsR at ha hb; omega
  have hnl : Builtin.Range.rangeFitsLong (n : Int) = true := by
    unfold Builtin.Range.rangeFitsLong; simp; rcases hfit with h | h
    · unfold fitsR at h; omega
    · omega
  refine wpAny_pyIter_range ho ?_ (hq _ _ ⟨_, _, rfl, itr_range R s.heap.objs.size a c n, ?_, trivial, ?_⟩)
  · unfold Builtin.Range.small
    rw [hn, fits_long ha, fits_long hb, hnl]
    have hb1 : Builtin.Range.rangeFitsLong (b + (1 - 1)) = true := by simpa using fits_long hb
    have hb2 : Builtin.Range.rangeFitsLong (b + (-1 + 1)) = true := by simpa using fits_long hb
    rcases hc with rfl | rfl
    · rw [show Builtin.Range.rangeFitsLong 1 = true from by decide, if_pos (by decide), hb1]; simp
    · rw [show Builtin.Range.rangeFitsLong (-1) = true from by decide, if_neg (by decide), hb2]; simp
  · have := S.fresh
    unfold upd at this
    split at this
    · cases this
    · exact this
  · have S1 := S.forget (σ' := σ) fun a P q => upd_none hr q
    refine S1.alloc (P := fun o => o = { cls := .type "range_iterator", dict := none, data := .fields #[rawInt (a + ((0 : Nat) : Int) * c), rawInt ((n : Int) - ((0 : Nat) : Int)), rawInt c], slots := #[] }) rfl ?_ s.toks
    rw [hn]; simp
end
end
section
open PySem PySem.W PyProof.Rows
theorem sub_ri_reversed : isSubtype (.type "range_iterator") (.type "reversed") = pure false := by rw [isSubtype_type]; kernel_rfl
section
variable {B : Heap} {L : Addr} {N : List (Str × Option Addr)} {l : List (Option Value)} {σ : Own} {φ : Frz} {s₀ s : Shared}
variable {prog : Program} {w : World} {A : Around} {E : Value → Shared → Prop} {env : Env}
abbrev riObj (x n c : Int) : Obj := { cls := .type "range_iterator", dict := none, data := .fields #[rawInt x, rawInt n, rawInt c], slots := #[] }
theorem call_range_reversed {r : Addr} {a b : Int} {t u v : Tok} {Q : Value → Shared → Prop} (hr : IsRange s.heap r a b 1 t u v) (ha : fitsR a) (hb : fitsR b)
    (h : Q (.ref s.heap.objs.size) { s with heap := s.heap.push (riObj (a + (((b - a).toNat : Int) - 1) * 1) ((b - a).toNat : Int) (-1)) }) : wpAny (model prog w) A (call (.builtin "range.__reversed__") [.ref r]) Q E s := by
  have hT : s.TypeIs (.ref r) "range" := ⟨_, hr, rfl⟩
  refine wpAny_call_entry F.slot_range_reversed hT F.entry_range_reversed ?_ (F.args_range_reversed_1 _)
  unfold Builtin.«range.__reversed__»
  refine wpAny_bind (wpAny_of_eq (a := Value.ref r) rfl ?_)
  unfold Builtin.Range.rangeFields
  refine wpAny_bind (wpAny_bind (wpAny_field hr rfl (x := .int a t) rfl ?_))
  refine wpAny_bind (wpAny_pure (wpAny_bind (wpAny_field hr rfl (x := .int b u) rfl ?_)))
  refine wpAny_bind (wpAny_pure (wpAny_bind (wpAny_field hr rfl (x := .int 1 v) rfl ?_)))
  refine wpAny_bind (wpAny_pure ?_)
  refine wpAny_pure ?_
  have hsm : (Builtin.Range.rangeFitsLong a && Builtin.Range.rangeFitsLong b && Builtin.Range.rangeFitsLong 1 && Builtin.Range.rangeFitsLong (-1) && Builtin.Range.rangeFitsLong (a - 1) && Builtin.Range.rangeFitsLong (Builtin.Range.rangeSize a b 1)) = true := by
    rw [fits_long ha, fits_long hb, show Builtin.Range.rangeFitsLong 1 = true from by decide, show Builtin.Range.rangeFitsLong (-1) = true from by decide, size_one]
    unfold fitsR at ha hb
    unfold Builtin.Range.rangeFitsLong
    simp; omega
  dsimp only
  rw [hsm]
  simp only [Bool.not_true, Bool.false_eq_true, if_false, if_true]
  rw [size_one]
  refine wpAny_bind (wpAny_newObj_type (wpAny_pure ⟨_, rfl, h⟩))
theorem code_reversed_range {r : Addr} {a b : Int} {t u v : Tok} {Q₁ : Value → Shared → Prop} (hr : IsRange s.heap r a b 1 t u v) (ha : fitsR a) (hb : fitsR b)
    (h : Q₁ (.ref s.heap.objs.size) { s with heap := s.heap.push (riObj (a + (((b - a).toNat : Int) - 1) * 1) ((b - a).toNat : Int) (-1)) }) :
    codeAny (model prog w) A (.call (.builtin "reversed.__new__") ⟨[.type "reversed", .ref r], []⟩) (wants Q₁ E) s := by
  have hT : s.TypeIs (.ref r) "range" := ⟨_, hr, rfl⟩
  refine codeAny_of_tree ?_
  show wpAny _ A.in1 (do checkBuiltinCall "reversed.__new__" ⟨[.type "reversed", .ref r], []⟩; again (.builtin "reversed.__new__" ⟨[.type "reversed", .ref r], []⟩)) _ _ s
  refine wpAny_bind (wpAny_of_eq (F.newCall_reversed_1 _) (wpAny_pure ⟨plainId_quiet F.plain_reversed_new _, codeAny_builtin F.entry_reversed_new ?_⟩))
  rw [Around.under_plainId F.plain_reversed_new _]
  unfold Builtin.«reversed.__new__»
  refine wpAny_bind (wpAny_of_eq (newClass_reversed _) ?_)
  try dsimp only
  refine wpAny_bind (wpAny_of_eq (a := ()) (by first | rfl | kernel_rfl) ?_)
  refine wpAny_bind (wpAny_of_eq (a := ()) (by first | rfl | kernel_rfl) ?_)
  try dsimp only
  refine wpAny_bind (wpAny_specialOf hT F.slot_range_reversed.lookup ?_)
  try dsimp only
  refine wpAny_bind (wpAny_of_eq (F.slot_range_reversed.bind _) ?_)
  try dsimp only
  first
  | rw [if_neg (show ¬ ((Value.builtin "range.__reversed__" == Value.none) = true) from Bool.false_ne_true)]
  | (show wpAny _ _ (if (Value.builtin "range.__reversed__" == Value.none) = true then _ else _) _ _ _; rw [if_neg (show ¬ ((Value.builtin "range.__reversed__" == Value.none) = true) from Bool.false_ne_true)])
  refine wpAny_bind (wpAny_rule ?_)
  refine wpAny_bind (m := runValue (.call (.builtin "range.__reversed__") ⟨[.ref r], []⟩)) (show wpAny _ _ (call (.builtin "range.__reversed__") [.ref r]) _ _ _ from call_range_reversed hr ha hb ?_)
  first
  | exact wpAny_pure h
  | exact wpAny_bind (wpAny_pure (wpAny_pure h))
theorem call_reversed_range {r : Addr} {a b : Int} {t u v : Tok} {Q : Value → Shared → Prop} (hr : IsRange s.heap r a b 1 t u v) (ha : fitsR a) (hb : fitsR b)
    (h : Q (.ref s.heap.objs.size) { s with heap := s.heap.push (riObj (a + (((b - a).toNat : Int) - 1) * 1) ((b - a).toNat : Int) (-1)) }) : wpAny (model prog w) A (call (.type "reversed") [.ref r]) Q E s := by
  refine callType_other (U := "range_iterator") (Q₁ := fun obj s₁ => obj = .ref s.heap.objs.size ∧ s₁ = { s with heap := s.heap.push (riObj (a + (((b - a).toNat : Int) - 1) * 1) ((b - a).toNat : Int) (-1)) }) (by decide +kernel) F.create_reversed ⟨_, _, F.mro_reversed⟩ F.made_reversed sub_ri_reversed (F.typeCall_reversed_1 _) (code_reversed_range hr ha hb ⟨rfl, rfl⟩) ?_
  rintro obj s₁ ⟨rfl, rfl⟩
  exact ⟨⟨_, Heap.get?_push_size _ rfl, rfl⟩, h⟩
/-- an iterator that is asked for itself -/
def IterAt (prog : Program) (w : World) (A : Around) (n : Nat) (P : Nat → Value → Prop) (need : Own → Prop) (I : Addr) (Pa : Obj → Prop) : Prop := ∃ At, Itr prog w A I n P At need ∧ At 0 = Pa
theorem rev_range {r : Addr} {n : Nat} {Q : Value → Shared → Prop} (R : A.handled = none) (S : St B L N l (upd σ r (IsRg 0 n 1)) φ s₀ s) (hr : σ r = none) (hn : n ≤ 1000000)
    (hq : ∀ I s' P, σ I = none → IterAt prog w A n (fun i v => ∃ t, v = .int ((n : Int) - 1 - i) t) needN I P → St B L N l (upd σ I P) φ s₀ s' → Q (.ref I) s') : wpAny (model prog w) A (call (.type "reversed") [.ref r]) Q E s := by
  obtain ⟨_, ho, t, u, v, rfl⟩ := S.own r _ upd_self
  refine call_reversed_range ho (by unfold fitsR; omega) (by unfold fitsR; omega) ?_
  have hI : σ s.heap.objs.size = none := by
    have := S.fresh
    unfold upd at this
    split at this
    · cases this
    · exact this
  have IT := itr_range (prog := prog) (w := w) R s.heap.objs.size ((n : Int) - 1) (-1) n
  refine hq _ _ _ hI ⟨_, ⟨fun i s σ o Q E hi ho ha hn hI hw hQ => IT.item i s σ o Q E hi ho ha hn hI hw fun v h' tk hP => ?_, IT.done, IT.self⟩, rfl⟩ ((S.forget (σ' := σ) fun a P q => upd_none hr q).alloc rfl ?_ s.toks)
  · obtain ⟨t, rfl⟩ := hP
    exact hQ _ h' tk ⟨t, by congr 1; omega⟩
  · simp
theorem iter_self {I : Addr} {n : Nat} {P : Nat → Value → Prop} {need : Own → Prop} {Pa : Obj → Prop} {Q : Value → Shared → Prop} (S : St B L N l (upd σ I Pa) φ s₀ s) (hI : σ I = none) (it : IterAt prog w A n P need I Pa) (hn : need σ)
    (hq : Ready prog w A B L N l σ φ s₀ n P need (.ref I) s → Q (.ref I) s) : wpAny (model prog w) A (pyIter (.ref I)) Q E s := by
  obtain ⟨At, IT, rfl⟩ := it
  obtain ⟨o, ho, ha⟩ := S.own I _ upd_self
  exact IT.self 0 s o _ _ ho ha (hq ⟨I, At, rfl, IT, hI, hn, S⟩)
end
end
section
open PySem PySem.W PyProof.Rows
def IsNs (o : Obj) : Prop := ∃ (m : Str → Option Value) (es : Array DictEntry) (ep : Nat), o.data = .dict es ep ∧ StrKeys es ∧ ∀ name, nsFind es name = m name
theorem isNs_of {h : Heap} {C : Addr} {m : Str → Option Value} (n : h.Ns C m) : ∃ o, h.get? C = some o ∧ IsNs o := let ⟨o, es, ep, e, r⟩ := n; ⟨o, e, m, es, ep, r⟩
theorem IsNs.ns {h : Heap} {C : Addr} {o : Obj} (x : IsNs o) (e : h.get? C = some o) : ∃ m, h.Ns C m := let ⟨m, es, ep, r⟩ := x; ⟨m, o, es, ep, e, r⟩

theorem closure_of {env : Env} : ∀ (names : List (Str × NameKind)) (acc : List (Str × Addr)), (∀ x, (x, NameKind.free) ∈ names → ∃ c, env.cells.lookup x = some c) →
    ∃ cl, (forIn names acc (fun (x : Str × NameKind) (cs : List (Str × Addr)) => if x.2 == .free then (do let a ← cellOf env x.1; pure (ForInStep.yield ((x.1, a) :: cs))) else pure (ForInStep.yield cs)) : Sem (List (Str × Addr))) = pure cl ∧
      (∀ x c, (x, NameKind.free) ∈ names → env.cells.lookup x = some c → cl.lookup x = some c) ∧ (∀ x c, acc.lookup x = some c → (∀ c', env.cells.lookup x = some c' → c' = c) → cl.lookup x = some c)
  | [], acc, _ => ⟨acc, rfl, fun _ _ h => (nomatch h), fun _ _ h _ => h⟩
  | (n, k) :: r, acc, hf => by
    rw [List.forIn_cons]
    by_cases hk : k = .free
    · subst hk
      obtain ⟨c, hc⟩ := hf n (.head _)
      obtain ⟨cl, h1, h2, h3⟩ := closure_of r ((n, c) :: acc) fun x hx => hf x (.tail _ hx)
      refine ⟨cl, ?_, fun x c' hx e => ?_, fun x c' e hu => ?_⟩
      · simp only [beq_self_eq_true, if_true, cellOf, hc, pure_bind]
        exact h1
      · rcases List.mem_cons.mp hx with q | q
        · cases q
          exact h3 n c' (by rw [hc] at e; cases e; simp [List.lookup_cons]) (fun c'' e' => by rw [e] at e'; cases e'; rfl)
        · exact h2 x c' q e
      · refine h3 x c' ?_ hu
        rw [List.lookup_cons]
        cases hb : x == n with
        | false => exact e
        | true =>
          have : x = n := beq_iff_eq.mp hb
          subst this
          rw [hu c hc]
    · obtain ⟨cl, h1, h2, h3⟩ := closure_of r acc fun x hx => hf x (.tail _ hx)
      refine ⟨cl, ?_, fun x c' hx e => ?_, h3⟩
      · have : (k == NameKind.free) = false := by simpa using hk
        simp only [this, Bool.false_eq_true, if_false, pure_bind]
        exact h1
      · rcases List.mem_cons.mp hx with q | q
        · cases q; exact absurd rfl hk
        · exact h2 x c' q e
theorem closureFor_of {env : Env} {scope : Scope} (hf : ∀ x, (x, NameKind.free) ∈ scope.names → ∃ c, env.cells.lookup x = some c) :
    ∃ cl, closureFor scope env = pure cl ∧ ∀ x c, (x, NameKind.free) ∈ scope.names → env.cells.lookup x = some c → cl.lookup x = some c := by
  obtain ⟨cl, h1, h2, _⟩ := closure_of (env := env) scope.names [] hf
  refine ⟨cl, ?_, h2⟩
  unfold closureFor
  have e : ∀ (names : List (Str × NameKind)) (acc : List (Str × Addr)), (forIn names acc (fun (x : Str × NameKind) (cs : List (Str × Addr)) => (match x with | (name, kind) => if (kind == .free) = true then (do let a ← cellOf env name; pure (ForInStep.yield ((name, a) :: cs))) else pure (ForInStep.yield cs) : Sem (ForInStep (List (Str × Addr))))) : Sem _) =
      forIn names acc (fun (x : Str × NameKind) (cs : List (Str × Addr)) => if x.2 == .free then (do let a ← cellOf env x.1; pure (ForInStep.yield ((x.1, a) :: cs))) else pure (ForInStep.yield cs)) := fun _ _ => rfl
  have := (e scope.names []).trans h1
  simp only [bind_pure]
  first
    | exact this
    | (rw [this]; rfl)

section
variable {B : Heap} {L : Addr} {N : List (Str × Option Addr)} {l : List (Option Value)} {σ : Own} {φ : Frz} {s₀ s : Shared}
variable {prog : Program} {w : World} {A : Around} {E : Value → Shared → Prop} {env : Env}

theorem lookup_relabel {env : Env} : ∀ (names : List (Str × NameKind)) (x : Str),
    (names.map fun (n, k) => if (k == NameKind.free && env.scope.kind == .function && env.kindOf n == some .cell) then (n, NameKind.cell) else (n, k)).lookup x =
      (names.lookup x).map fun k => if (k == NameKind.free && env.scope.kind == .function && env.kindOf x == some .cell) = true then NameKind.cell else k
  | [], _ => rfl
  | (n, k) :: r, x => by
    rw [List.map_cons]
    have ih := lookup_relabel (env := env) r x
    by_cases hc : (k == NameKind.free && env.scope.kind == .function && env.kindOf n == some .cell) = true
    · simp only [hc, if_true, List.lookup_cons]
      cases hx : x == n with
      | true =>
        have : x = n := beq_iff_eq.mp hx
        subst this
        simp only [Option.map_some]
        rw [if_pos hc]
      | false => exact ih
    · simp only [if_neg hc, List.lookup_cons]
      cases hx : x == n with
      | true =>
        have : x = n := beq_iff_eq.mp hx
        subst this
        simp only [Option.map_some]
        rw [if_neg hc]
      | false => exact ih
/-- what holds while a comprehension runs -/
noncomputable def om (At : Nat → Obj → Prop) (I D C : Addr) (σ : Own) (i : Nat) (ys : List Value) : Own := upd (upd (upd σ I (At i)) D (IsL ys)) C IsNs
theorem om_I {At : Nat → Obj → Prop} {I D C : Addr} {σ : Own} {i : Nat} {ys : List Value} (h1 : I ≠ D) (h2 : I ≠ C) : om At I D C σ i ys I = some (At i) := by unfold om; rw [upd_ne h2, upd_ne h1, upd_self]
theorem om_D {At : Nat → Obj → Prop} {I D C : Addr} {σ : Own} {i : Nat} {ys : List Value} (h2 : D ≠ C) : om At I D C σ i ys D = some (IsL ys) := by unfold om; rw [upd_ne h2, upd_self]
theorem om_C {At : Nat → Obj → Prop} {I D C : Addr} {σ : Own} {i : Nat} {ys : List Value} : om At I D C σ i ys C = some IsNs := by unfold om; rw [upd_self]
theorem om_of {At : Nat → Obj → Prop} {I D C : Addr} {σ : Own} {i : Nat} {ys : List Value} (h1 : σ I = none) (h2 : σ D = none) (h3 : σ C = none) : ∀ a P, σ a = some P → om At I D C σ i ys a = some P := fun a P e => by
  unfold om
  rw [upd_ne ((by first | exact ne_sn e h3 | exact ne_ns e h3 | exact ne_sn h3 e | exact ne_ns h3 e)), upd_ne ((by first | exact ne_sn e h2 | exact ne_ns e h2 | exact ne_sn h2 e | exact ne_ns h2 e)), upd_ne ((by first | exact ne_sn e h1 | exact ne_ns e h1 | exact ne_sn h1 e | exact ne_ns h1 e))]; exact e
theorem om_next {At : Nat → Obj → Prop} {I D C : Addr} {σ : Own} {i : Nat} {ys : List Value} {j : Nat} (h1 : I ≠ D) (h2 : I ≠ C) : upd (om At I D C σ i ys) I (At j) = om At I D C σ j ys := by
  unfold om; rw [upd_comm (Ne.symm h2), upd_comm (Ne.symm h1), upd_upd]
theorem om_app {At : Nat → Obj → Prop} {I D C : Addr} {σ : Own} {i : Nat} {ys zs : List Value} (h2 : D ≠ C) : upd (om At I D C σ i ys) D (IsL zs) = om At I D C σ i zs := by
  unfold om; rw [upd_comm (Ne.symm h2), upd_upd]

theorem compLoop_t {elt target iter : Expr} {ifs : List Expr} {scope : Scope} {pos : Pos} {it acc : Value} {env : Env} {R : Result → Shared → Prop} (I : Nat → Shared → Prop)
    (turn : ∀ n s, I n s → wpAny (model prog w) A (pyNext it) (fun r s₁ => match r with
      | none => R (.ok .next) s₁
      | some v => wpAny (model prog w) A (letOwnedTupleGo target it v) (fun _ s₁' => wpAny (model prog w) A (assign target env v) (fun _ s₂ =>
          wpAny (model prog w) A (forIn ifs true fun c r => if r = true then do let ok ← isTrue c env (eval c env); pure (ForInStep.yield ok) else pure (ForInStep.yield r)) (fun ok s₃ =>
            if ok = true then wpAny (model prog w) A (eval elt env) (fun x s₄ =>
              wpAny (model prog w) A (call (.builtin "list.append") [acc, x]) (fun _ s₅ => ∃ m, m < n ∧ I m s₅) (notedBy (model prog w) A env fun e s' => R (.error e) s') s₄) (notedBy (model prog w) A env fun e s' => R (.error e) s') s₃
            else ∃ m, m < n ∧ I m s₃) (notedBy (model prog w) A env fun e s' => R (.error e) s') s₂) (notedBy (model prog w) A env fun e s' => R (.error e) s') s₁') (notedBy (model prog w) A env fun e s' => R (.error e) s') s₁) (notedBy (model prog w) A env fun e s' => R (.error e) s') s)
    (n : Nat) (h : I n s) : codeAny (model prog w) A (.compLoop (.ListComp elt [⟨target, iter, ifs, 0⟩] scope pos) 0 it acc env) R s := by
  refine codeAny_loop rfl I (fun n s hI => ?_) n h
  show wpAny _ A ((compTurn (.ListComp elt [⟨target, iter, ifs, 0⟩] scope pos) 0 it acc env).onRaise (fun x => do noteFrame x env; theTreesLotGoes x)) _ _ s
  refine wpAny_noted ?_
  rw [compTurn_list]
  refine wpAny_bind (wpAny_standAt (wpAny_bind (wpAny_mono (turn n s hI) (fun r s₁ h₁ => ?_) fun _ _ h' => h')))
  cases r with
  | none => exact wpAny_pure h₁
  | some v =>
    refine wpAny_bind (wpAny_mono h₁ (fun _ s₁' h₁' => ?_) fun _ _ h' => h')
    refine wpAny_bind (wpAny_mono h₁' (fun _ s₂ h₂ => wpAny_bind (wpAny_mono h₂ (fun ok s₃ h₃ => ?_) fun _ _ h' => h')) fun _ _ h' => h')
    cases ok with
    | false => exact wpAny_pure ⟨rfl, h₃⟩
    | true =>
      exact wpAny_bind (wpAny_bind (wpAny_mono h₃ (fun x s₄ h₄ => wpAny_bind (wpAny_mono h₄ (fun _ s₅ h₅ => wpAny_pure (wpAny_pure ⟨rfl, h₅⟩)) fun _ _ h' => h')) fun _ _ h' => h'))
/-- an object is given up -/
theorem St.drop (S : St B L N l σ φ s₀ s) {C : Addr} {P : Obj → Prop} {h' : Heap} (hC : σ C = some P) (hk : KeepBut C s.heap h') (t : Nat) {σ' : Own} (hσ : ∀ a P, σ' a = some P → a ≠ C ∧ σ a = some P) :
    St B L N l σ' φ s₀ { s with heap := h', toks := t } := by
  have S0 := S.forget (σ' := σ') fun a P q => (hσ a P q).2
  have hne : σ C ≠ none := by rw [hC]; exact fun e => by cases e
  have hIL : L ≠ C := (by first | exact ne_sn S.offσ hC | exact ne_ns S.offσ hC | exact ne_sn hC S.offσ | exact ne_ns hC S.offσ)
  obtain ⟨m, hnm, hv⟩ := S.vars
  have hIB : B.get? C = none := S.ownB C hne
  have hφI : φ C = none := S.apart C hne
  exact { S0 with
    base := fun b o q => hk b o ((by first | exact ne_sn q hIB | exact ne_ns q hIB | exact ne_sn hIB q | exact ne_ns hIB q)) (S.base b o q)
    vars := ⟨m, (let ⟨o, es, ep, a, r⟩ := hnm; ⟨o, es, ep, hk L o hIL a, r⟩), hv.heap fun x c v hm ⟨o, q, r⟩ => ⟨o, hk c o ((by first | exact ne_sn ((S.cells x c hm).2.2.1) hC | exact ne_ns ((S.cells x c hm).2.2.1) hC | exact ne_sn hC ((S.cells x c hm).2.2.1) | exact ne_ns hC ((S.cells x c hm).2.2.1))) q, r⟩⟩
    own := fun a Pa q => by
      obtain ⟨o, ho, p⟩ := S0.own a Pa q
      exact ⟨o, hk a o (hσ a Pa q).1 ho, p⟩
    frm := fun a P q => let ⟨o, ho, p⟩ := S.frm a P q; ⟨o, hk a o ((by first | exact ne_sn q hφI | exact ne_ns q hφI | exact ne_sn hφI q | exact ne_ns hφI q)) ho, p⟩ }
def IsCe (o : Obj) : Prop := ∃ v, o.data = .cell v
/-- what stands none while the block runs -/
def OffC (I D C : Addr) (kz : List Addr) (σ : Own) : Prop := σ I = none ∧ σ D = none ∧ σ C = none ∧ ∀ a ∈ kz, σ a = none
structure OmOk (At : Nat → Obj → Prop) (I D C : Addr) (kz : List Addr) (O : Own → Nat → List Value → Own) : Prop where
  kI : ∀ σ i ys, O σ i ys I = some (At i)
  kD : ∀ σ i ys, O σ i ys D = some (IsL ys)
  kC : ∀ σ i ys, O σ i ys C = some IsNs
  kk : ∀ σ i ys, ∀ a ∈ kz, O σ i ys a = some IsCe
  of : ∀ σ i ys, OffC I D C kz σ → ∀ a P, σ a = some P → O σ i ys a = some P
  next : ∀ σ i ys j, upd (O σ i ys) I (At j) = O σ j ys
  app : ∀ σ i ys zs, upd (O σ i ys) D (IsL zs) = O σ i zs
  nID : I ≠ D
  nIC : I ≠ C
  nCD : C ≠ D
  nz : ∀ a ∈ kz, a ≠ I ∧ a ≠ D ∧ a ≠ C
theorem St.held (S : St B L N l σ φ s₀ s) {a : Addr} {P : Obj → Prop} (q : σ a = some P) : a ≠ L ∧ (∀ x c, (x, some c) ∈ N → c ≠ a) ∧ φ a = none ∧ B.get? a = none :=
  have hne : σ a ≠ none := by rw [q]; exact fun e => by cases e
  ⟨ne_sn q S.offσ, fun x c hm => ne_ns (S.cells x c hm).2.2.1 q, S.apart a hne, S.ownB a hne⟩
/-- back in the block around -/
theorem comp_back {N' : List (Str × Option Addr)} {O : Own → Nat → List Value → Own} {I D C : Addr} {At : Nat → Obj → Prop} (K : OmOk At I D C (N'.filterMap (·.2)) O)
    (otake : ∀ σ₃ i ys l₃ φ' s, St B C N' l₃ σ₃ φ' s₀ s → St B L N l (upd (upd σ₃ I (At i)) D (IsL ys)) φ s₀ s → (∀ a ∈ C :: N'.filterMap (·.2), a ≠ L ∧ (∀ x c, (x, some c) ∈ N → c ≠ a) ∧ φ a = none ∧ B.get? a = none) → St B L N l (O σ₃ i ys) φ s₀ s)
    {i : Nat} {ys : List Value} {h' : Heap} {l₃ : List (Option Value)} {σ₃ : Own} {s₃ : Shared} (off : OffC I D C (N'.filterMap (·.2)) σ) (S2 : St B L N l (O σ i ys) φ s₀ s) (hh : ∀ b o, s.heap.get? b = some o → h'.get? b = some o)
    (S4 : St B C N' l₃ σ₃ (frz N L (O σ i ys) φ σ (C :: N'.filterMap (·.2)) h') s₀ s₃) :
    OffC I D C (N'.filterMap (·.2)) σ₃ ∧ St B L N l (O σ₃ i ys) φ s₀ s₃ := by
  have hex : ∀ a ∈ C :: N'.filterMap (·.2), a ≠ L ∧ (∀ x c, (x, some c) ∈ N → c ≠ a) ∧ φ a = none ∧ B.get? a = none := fun a ha => by
    rcases List.mem_cons.mp ha with q | q
    · subst q; exact S2.held (K.kC _ _ _)
    · exact S2.held (K.kk _ _ _ a q)
  have frozen : ∀ a, a ∉ C :: N'.filterMap (·.2) → σ a = none → ∀ Pa, O σ i ys a = some Pa → σ₃ a = none := fun a h1 h2 Pa q' => by
    obtain ⟨x1, _, x3, _⟩ := S2.held q'
    have q : frz N L (O σ i ys) φ σ (C :: N'.filterMap (·.2)) h' a = (h'.get? a).map (fun o o' => o' = o) := frz_of h1 h2 x3 x1 (.inr (by rw [q']; exact fun e => by cases e))
    obtain ⟨o, ho, _⟩ := S2.own a Pa q'
    rw [hh a o ho] at q
    cases q'' : σ₃ a with
    | none => rfl
    | some _ => rw [S4.apart a (by rw [q'']; exact fun e => by cases e)] at q; cases q
  have nI : I ∉ C :: N'.filterMap (·.2) := fun q => (List.mem_cons.mp q).elim K.nIC fun q => (K.nz _ q).1 rfl
  have nD : D ∉ C :: N'.filterMap (·.2) := fun q => (List.mem_cons.mp q).elim (Ne.symm K.nCD) fun q => (K.nz _ q).2.1 rfl
  have hI3 := frozen I nI off.1 _ (K.kI _ _ _)
  have hD3 := frozen D nD off.2.1 _ (K.kD _ _ _)
  have S5 := S2.leave (σ := σ) (h₁ := h') (ex := C :: N'.filterMap (·.2)) (K.of _ _ _ off) hh (fun a ha => let ⟨x1, x2, x3, _⟩ := hex a ha; ⟨x1, x2, x3⟩) S4
  have mg : ∀ a, a ∉ C :: N'.filterMap (·.2) → σ a = none → σ₃ a = none → mrg σ₃ (O σ i ys) σ (C :: N'.filterMap (·.2)) a = O σ i ys a := fun a h1 h2 h3 => by
    unfold mrg; rw [if_neg (fun c => c h3), if_pos ⟨h2, h1⟩]
  refine ⟨⟨hI3, hD3, S4.offσ, fun a ha => ?_⟩, otake σ₃ i ys _ _ _ S4 (S5.forget fun a Pa q => ?_) hex⟩
  · obtain ⟨⟨x, c⟩, hm, q⟩ := List.mem_filterMap.mp ha
    exact (S4.cells x a (by rw [← show c = some a from q]; exact hm)).2.2.1
  · by_cases hD' : a = D
    · subst hD'; rw [mg a nD off.2.1 hD3, K.kD]; rw [upd_self] at q; exact q
    · rw [upd_ne hD'] at q
      by_cases hI' : a = I
      · subst hI'; rw [mg a nI off.1 hI3, K.kI]; rw [upd_self] at q; exact q
      · rw [upd_ne hI'] at q
        unfold mrg
        rw [if_pos (by rw [q]; exact fun e => by cases e)]; exact q
theorem comp_coreG (n : Nat) (P : Nat → Value → Prop) (need : Own → Prop) (J : Nat → List Value → Own → Prop) (Fv Fo G : List (Str × Value)) {N' : List (Str × Option Addr)} {l0 : List (Option Value)} {O : Own → Nat → List Value → Own} {elt target iter : Expr} {ifs : List Expr} {scope : Scope} {pos : Pos} {cenv : Env} {I D C : Addr} {At : Nat → Obj → Prop}
    {R : Result → Shared → Prop}
    (K : OmOk At I D C (N'.filterMap (·.2)) O)
    (otake : ∀ σ₃ i ys l₃ φ' s, St B C N' l₃ σ₃ φ' s₀ s → St B L N l (upd (upd σ₃ I (At i)) D (IsL ys)) φ s₀ s → (∀ a ∈ C :: N'.filterMap (·.2), a ≠ L ∧ (∀ x c, (x, some c) ∈ N → c ≠ a) ∧ φ a = none ∧ B.get? a = none) → St B L N l (O σ₃ i ys) φ s₀ s)
    (hv : ∀ h m, (∀ a ∈ N'.filterMap (·.2), ∃ o, h.get? a = some o ∧ IsCe o) → Vars h m N' l0)
    (IT : Itr prog w A I n P At need) (e : EnvOk env L N) (eF : EnvF env φ Fo) (e' : EnvOk cenv C N') (eG' : EnvG B cenv G) (hCL : B.objs.size ≤ C)
    (hF : ∀ p ∈ Fv, (cenv.kindOf p.1 = some .cell ∨ (cenv.kindOf p.1 = some .free ∧ (p.1 == ("__classdict__" : Str)) = false)) ∧ (p.1 == ("__debug__" : Str)) = false ∧ (∀ c, env.cells.lookup p.1 = some c → cenv.cells.lookup p.1 = some c) ∧ ((∃ k, k ≠ none ∧ GetV N l p.1 k p.2) ∨ p ∈ Fo))
    (hneed : ∀ i ys σ, J i ys σ → need σ) (hsz : n ≤ sizeLine) (hlen : ∀ i ys σ, J i ys σ → ys.length ≤ i)
    (turn : ∀ i v ys σ φ' s, i < n → P i v → J i ys σ → EnvF cenv φ' Fv → St B C N' l0 σ φ' s₀ s →
      wpAny (model prog w) A (assign target cenv v) (fun _ s₁ => wpAny (model prog w) A (forIn ifs true fun c r => if r = true then do let ok ← isTrue c cenv (eval c cenv); pure (ForInStep.yield ok) else pure (ForInStep.yield r))
        (fun ok s₂ => if ok = true then wpAny (model prog w) A (eval elt cenv) (fun y s₃ => ∃ l₃ σ₃, J (i + 1) (ys ++ [y]) σ₃ ∧ St B C N' l₃ σ₃ φ' s₀ s₃) Nev s₂
          else ∃ l₃ σ₃, J (i + 1) ys σ₃ ∧ St B C N' l₃ σ₃ φ' s₀ s₂) Nev s₁) Nev s)
    (fin : ∀ ys σ s, J n ys σ → σ D = none → σ C = none → St B L N l (upd (upd σ D (IsL ys)) C IsNs) φ s₀ s → R (.ok .next) s)
    (ht : ∀ i v (o : Obj) (s : Shared) (Q : Unit → Shared → Prop) (E : Value → Shared → Prop), i < n → P i v → s.heap.get? I = some o → At (i + 1) o → Q () s → wpAny (model prog w) A (letOwnedTupleGo target (.ref I) v) Q E s)
    (j : J 0 [] σ) (off : OffC I D C (N'.filterMap (·.2)) σ) (S : St B L N l (O σ 0 []) φ s₀ s) :
    codeAny (model prog w) A (.compStart (.ListComp elt [⟨target, iter, ifs, 0⟩] scope pos) 0 (.ref I) (.ref D) cenv) R s := by
  have loop : codeAny (model prog w) A (.compLoop (.ListComp elt [⟨target, iter, ifs, 0⟩] scope pos) 0 (.ref I) (.ref D) cenv) R s := by
    refine compLoop_t (fun k s' => ∃ i ys σ, i ≤ n ∧ k = n + 1 - i ∧ J i ys σ ∧ OffC I D C (N'.filterMap (·.2)) σ ∧ St B L N l (O σ i ys) φ s₀ s') ?_ (n + 1) ⟨0, [], σ, Nat.zero_le _, rfl, j, off, S⟩
    clear j off S
    rintro k s' ⟨i, ys, σ, hin, rfl, j, off, S⟩
    obtain ⟨oI, hoI, hat⟩ := S.own I _ (K.kI _ _ _)
    have hown : ∀ a P, σ a = some P → ∃ o, s'.heap.get? a = some o ∧ P o := fun a P q => S.own a P (K.of _ _ _ off a P q)
    rcases Nat.lt_or_ge i n with hlt | hge
    · refine IT.item i s' σ oI _ _ hlt hoI hat (hneed i ys σ j) off.1 hown fun v h' tk hP ho' hk => ?_
      have S2 := S.change (K.kI _ _ _) hk ho' tk
      rw [K.next] at S2
      obtain ⟨oC, hoC, nsC⟩ := S2.own C _ (K.kC _ _ _)
      obtain ⟨m, hnC⟩ := nsC.ns hoC
      have S3 := S2.enter (σ := σ) (C := C) (N' := N') (l' := l0) (h₁ := h') (t := tk) (K.of _ _ _ off) (fun _ _ q => q) off.2.2.1 hCL hnC (hv _ _ fun a ha => S2.own a _ (K.kk _ _ _ a ha)) (fun x c hm => by
        have hm' : c ∈ N'.filterMap (·.2) := List.mem_filterMap.mpr ⟨_, hm, rfl⟩
        exact ⟨(K.nz c hm').2.2, (S2.held (K.kk _ _ _ c hm')).2.2.2, off.2.2.2 c hm'⟩)
      have eF' : EnvF cenv (frz N L (O σ (i + 1) ys) φ σ (C :: N'.filterMap (·.2)) h') Fv := by
        refine ⟨e'.kind, fun p hp => ?_⟩
        obtain ⟨f1, f2, f3, f4⟩ := hF p hp
        refine ⟨f1, f2, ?_⟩
        have nex : ∀ c, (∀ a Pa, O σ (i + 1) ys a = some Pa → c ≠ a) → c ∉ C :: N'.filterMap (·.2) ∧ σ c = none := fun c hc => ⟨fun q => (List.mem_cons.mp q).elim (hc C _ (K.kC _ _ _)) fun q => hc c _ (K.kk _ _ _ c q) rfl, by
          cases q : σ c with
          | none => rfl
          | some Pc => exact absurd rfl (hc c _ (K.of _ _ _ off c Pc q))⟩
        rcases f4 with ⟨k, hk0, g⟩ | g
        · cases k with
          | none => exact absurd rfl hk0
          | some c =>
            obtain ⟨m0, hm0, hv0⟩ := S2.vars
            obtain ⟨oc, hoc, hdc⟩ := hv0.get_cell g
            have hcN := g.mem
            have hcc := S2.cells p.1 c hcN
            obtain ⟨n1, n2⟩ := nex c fun a Pa q => ne_ns hcc.2.2.1 q
            exact ⟨c, fun o => o = oc, f3 c (e.cell p.1 c hcN).2, (frz_of n1 n2 hcc.2.2.2 hcc.1 (.inl (List.mem_filterMap.mpr ⟨_, hcN, rfl⟩))).trans (by rw [show h'.get? c = _ from hoc]; rfl), fun o h => h ▸ hdc⟩
        · obtain ⟨_, _, c, oc, hc1, hc2, hc3⟩ := eF.free p g
          obtain ⟨n1, n2⟩ := nex c fun a Pa q => ne_sn hc2 (S2.held q).2.2.1
          exact ⟨c, oc, f3 c hc1, (frz_φ n1 n2 (by rw [hc2]; exact fun q => by cases q)).trans hc2, hc3⟩
      obtain ⟨oI', hoI', hat'⟩ := ho'
      refine ht i v oI' _ _ _ hlt hP hoI' hat' ?_
      have more : n + 1 - (i + 1) < n + 1 - i := by (clear hsz hCL; omega)
      refine wpAny_mono (turn i v ys σ _ _ hlt hP j eF' S3) (fun _ s₁ h₁ => wpAny_mono h₁ (fun ok s₂ h₂ => ?_) fun _ _ x => x.elim) fun _ _ x => x.elim
      cases ok with
      | true =>
        rw [if_pos rfl] at h₂ ⊢
        refine wpAny_mono h₂ (fun y s₃ h₃ => ?_) fun _ _ x => x.elim
        obtain ⟨l₃, σ₃, j', S4⟩ := h₃
        obtain ⟨off', S5⟩ := comp_back K otake off S2 (fun _ _ q => q) S4
        refine append_l S5 (K.kD _ _ _) (Nat.le_trans (hlen i ys σ j) (Nat.le_trans hin hsz)) fun s₄ S6 => ?_
        rw [K.app] at S6
        exact ⟨_, more, i + 1, _, σ₃, hlt, rfl, j', off', S6⟩
      | false =>
        rw [if_neg (fun q => by cases q)] at h₂ ⊢
        obtain ⟨l₃, σ₃, j', S4⟩ := h₂
        obtain ⟨off', S5⟩ := comp_back K otake off S2 (fun _ _ q => q) S4
        exact ⟨_, more, i + 1, _, σ₃, hlt, rfl, j', off', S5⟩
    · have hin' : i = n := Nat.le_antisymm hin hge
      subst hin'
      refine IT.done s' σ oI _ _ hoI hat (hneed _ ys σ j) off.1 hown fun h' tk hk => ?_
      refine fin ys σ _ j off.2.1 off.2.2.1 (S.drop (K.kI _ _ _) hk tk fun a Pa q => ?_)
      by_cases h1 : a = C
      · subst h1; rw [upd_self] at q; rw [K.kC]; exact ⟨Ne.symm K.nIC, q⟩
      · rw [upd_ne h1] at q
        by_cases h2 : a = D
        · subst h2; rw [upd_self] at q; rw [K.kD]; exact ⟨Ne.symm K.nID, q⟩
        · rw [upd_ne h2] at q
          exact ⟨ne_sn q off.1, K.of _ _ _ off a Pa q⟩
  obtain ⟨oI, hoI, hat⟩ := S.own I _ (K.kI _ _ _)
  exact codeAny_compStart_list loop (IT.self 0 _ oI _ _ hoI hat loop)
theorem lk_of {scope : Scope} {x : Str} {k : NameKind} (h : scope.names.lookup x = some k) (hk : k ≠ .free) : (relabel scope env).names.lookup x = some k := by
  have := lookup_relabel (env := env) scope.names x
  rw [h] at this
  refine this.trans ?_
  simp
  intro q
  exact absurd q hk
theorem lk_free {scope : Scope} {x : Str} (h : scope.names.lookup x = some .free) : (relabel scope env).names.lookup x = some .cell ∨ (relabel scope env).names.lookup x = some .free := by
  have := lookup_relabel (env := env) scope.names x
  rw [h] at this
  have q : (relabel scope env).names.lookup x = _ := this
  rw [q]
  simp only [Option.map_some]
  split
  · exact .inl rfl
  · exact .inr rfl
theorem size_le {P : Obj → Prop} {C : Addr} {H : Heap} {t : Nat} (S : St B L N l σ φ s₀ s) (S₁ : St B L N l (upd σ C P) φ s₀ { s with heap := H, toks := t }) : B.objs.size ≤ H.objs.size := by
  obtain ⟨oL, hL⟩ := S₁.L_in
  exact Nat.le_trans S.above (Nat.le_of_lt (Heap.lt_size hL))
theorem vars_none {h : Heap} {m : Str → Option Value} : ∀ xs : List Str, Vars h m (xs.map (·, none)) (xs.map fun _ => none)
  | [] => .nil
  | _ :: r => .loc (fun u q => by cases q) (vars_none r)
theorem comp_coreT (n : Nat) (P : Nat → Value → Prop) (need : Own → Prop) (J : Nat → List Value → Own → Prop) (xs : List Str) (Fv Fo G : List (Str × Value)) {elt target iter : Expr} {ifs : List Expr} {scope : Scope} {cl : List (Str × Addr)} {pos : Pos} {I : Addr} {At : Nat → Obj → Prop}
    {RR : Value → Addr → Result → Shared → Prop}
    (IT : Itr prog w A I n P At need) (hI : σ I = none) (hn : need σ) (S : St B L N l (upd σ I (At 0)) φ s₀ s) (j : J 0 [] σ) (e : EnvOk env L N) (eF : EnvF env φ Fo) (hg : env.globals = mainGlobals) (hb : env.builtins = builtinsNs)
    (hcl : ∀ x c, (x, NameKind.free) ∈ scope.names → env.cells.lookup x = some c → cl.lookup x = some c)
    (hcell : ∀ y ∈ scope.names, y.2 ≠ .cell) (hkind : scope.kind = .function) (hnd : xs.Nodup) (hx : ∀ x ∈ xs, scope.names.lookup x = some .local ∧ (x == ("__debug__" : Str)) = false)
    (hG : ∀ p ∈ G, scope.names.lookup p.1 = some .globalImplicit ∧ (p.1 == ("__debug__" : Str)) = false ∧ GlobIs B p.1 p.2)
    (hF : ∀ p ∈ Fv, scope.names.lookup p.1 = some .free ∧ (p.1 == ("__debug__" : Str)) = false ∧ (p.1 == ("__classdict__" : Str)) = false ∧ ((∃ k, k ≠ none ∧ GetV N l p.1 k p.2) ∨ p ∈ Fo))
    (hneed : ∀ i ys σ, J i ys σ → need σ) (hsz : n ≤ sizeLine) (hlen : ∀ i ys σ, J i ys σ → ys.length ≤ i)
    (turn : ∀ i v ys σ cenv C φ' s, i < n → P i v → J i ys σ → EnvOk cenv C (xs.map (·, none)) → EnvF cenv φ' Fv → EnvG B cenv G → St B C (xs.map (·, none)) (xs.map fun _ => none) σ φ' s₀ s →
      wpAny (model prog w) A (assign target cenv v) (fun _ s₁ => wpAny (model prog w) A (forIn ifs true fun c r => if r = true then do let ok ← isTrue c cenv (eval c cenv); pure (ForInStep.yield ok) else pure (ForInStep.yield r))
        (fld fun ok s₂ => if ok = true then wpAny (model prog w) A (eval elt cenv) (fld fun y s₃ => ∃ l₃ σ₃, J (i + 1) (ys ++ [y]) σ₃ ∧ St B C (xs.map (·, none)) l₃ σ₃ φ' s₀ s₃) Nev s₂
          else ∃ l₃ σ₃, J (i + 1) ys σ₃ ∧ St B C (xs.map (·, none)) l₃ σ₃ φ' s₀ s₂) Nev s₁) Nev s)
    (fin : ∀ D C ys σ s, J n ys σ → σ D = none → σ C = none → D ≠ C → St B L N l (upd (upd σ D (IsL ys)) C IsNs) φ s₀ s → RR (.ref D) C (.ok .next) s)
    (ht : ∀ i v (o : Obj) (s : Shared) (Q : Unit → Shared → Prop) (E : Value → Shared → Prop), i < n → P i v → s.heap.get? I = some o → At (i + 1) o → Q () s → wpAny (model prog w) A (letOwnedTupleGo target (.ref I) v) Q E s) :
    wpAny (model prog w) A (newList []) (fun acc s₃ => wpAny (model prog w) A (newFunctionEnv scope env.globals cl [] env.qual none .none (some env)) (fun cenv s₄ =>
      codeAny (model prog w) A (.compStart (.ListComp elt [⟨target, iter, ifs, 0⟩] scope pos) 0 (.ref I) acc { cenv with scope := relabel scope env }) (RR acc cenv.locals) s₄) E s₃) E s := by
  dsimp only [fld] at turn
  refine wpAny_newObj_type (wpAny_newFunctionEnv hcell (by intro y hy; simp at hy) (fun h₁ hns₁ hsb₁ => ?_) hkind)
  dsimp only at hns₁ hsb₁ ⊢
  have S₁ := S.alloc (o := { cls := .type "list", dict := none, data := .seq ([] : List Value).toArray }) (P := IsL []) rfl ⟨_, rfl⟩ s.toks
  have hD : upd σ I (At 0) s.heap.objs.size = none := S.fresh
  generalize hH2 : s.heap.push { cls := .type "list", dict := none, data := .seq ([] : List Value).toArray } = H2 at hns₁ hsb₁ S₁ ⊢
  generalize hDD : s.heap.objs.size = D at hD S₁ ⊢
  have hC := S₁.fresh
  dsimp only at hC
  have keep1 : ∀ b o, H2.get? b = some o → h₁.get? b = some o := fun b o e => hsb₁.extBut b o (Nat.ne_of_lt (Heap.lt_size e)) (Heap.get?_push_of_some _ e)
  have S₂ := S₁.made (h' := h₁) (P := IsNs) (a := H2.objs.size) size_none keep1 (isNs_of hns₁) (s.toks + ([] : List (Str × Value)).length)
  dsimp only at S₂
  have hCL := size_le S S₁
  generalize hCC : H2.objs.size = C at hC S₂ hns₁ hCL ⊢
  have hID : I ≠ D := ne_sn upd_self hD
  have hσD : σ D = none := (upd_ne (Ne.symm hID)).symm.trans hD
  have hCD : C ≠ D := ne_ns hC upd_self
  have hC' : upd σ I (At 0) C = none := (upd_ne hCD).symm.trans hC
  have hIC : I ≠ C := ne_sn upd_self hC'
  have hσC : σ C = none := (upd_ne (Ne.symm hIC)).symm.trans hC'
  have nocell : (xs.map (fun x => (x, (none : Option Addr)))).filterMap (·.2) = [] := by rw [List.filterMap_map]; exact List.filterMap_eq_nil_iff.mpr fun _ _ => rfl
  have e' : EnvOk (compEnvC scope cl C env) C (xs.map (·, none)) := by
    refine { locals := rfl, kind := hkind, loc := fun x hm => ?_, cell := fun x c hm => ?_, dbg := fun p hm => ?_, nodup := ?_, cnodup := by rw [nocell]; exact .nil }
    · obtain ⟨y, hy, q⟩ := List.mem_map.mp hm; cases q; exact lookup_relabel_local (hx x hy).1
    · obtain ⟨y, hy, q⟩ := List.mem_map.mp hm; cases q
    · obtain ⟨y, hy, q⟩ := List.mem_map.mp hm; cases q; exact (hx y hy).2
    · rw [List.map_map]
      have : ((fun x : Str × Option Addr => x.1) ∘ fun x => (x, none)) = id := rfl
      rw [this, List.map_id]; exact hnd
  refine comp_coreG (O := om At I D C) (N' := xs.map (·, none)) (l0 := xs.map fun _ => none) n P need J Fv Fo G ?_ (fun σ₃ i ys l₃ φ' s S4 S6 hex => ?_) (fun h m _ => ?_) IT e eF e'
    { globals := hg, builtins := hb, kind := hkind, glob := fun p hp => ⟨lk_of (hG p hp).1 (by intro c; cases c), (hG p hp).2⟩ } hCL
    (fun p hp => let ⟨f1, f2, f3, f4⟩ := hF p hp; ⟨(lk_free f1).imp id fun q => ⟨q, f3⟩, f2, fun c q => hcl p.1 c (mem_of_lookup f1) q, f4⟩) hneed hsz hlen
    (fun i v ys σ φ' s h1 h2 h3 h4 h5 => turn i v ys σ _ C φ' s h1 h2 h3 e' h4 { globals := hg, builtins := hb, kind := hkind, glob := fun p hp => ⟨lk_of (hG p hp).1 (by intro c; cases c), (hG p hp).2⟩ } h5)
    (fun ys σ s h1 h2 h3 h4 => fin D C ys σ s h1 h2 h3 (Ne.symm hCD) h4) ht j ⟨hI, hσD, hσC, by rw [nocell]; exact fun _ q => (nomatch q)⟩ S₂
  · exact ⟨fun _ _ _ => om_I hID hIC, fun _ _ _ => om_D (Ne.symm hCD), fun _ _ _ => om_C, (by rw [nocell]; exact fun _ _ _ _ q => (nomatch q)),
      fun _ _ _ h => om_of h.1 h.2.1 h.2.2.1, fun _ _ _ _ => om_next hID hIC, fun _ _ _ _ => om_app (Ne.symm hCD), hID, hIC, hCD, (by rw [nocell]; exact fun _ q => (nomatch q))⟩
  · obtain ⟨mC, hmC, _⟩ := S4.vars
    obtain ⟨x1, x2, x3, x4⟩ := hex C (.head _)
    exact S6.take (isNs_of hmC) x1 x2 x4 x3
  · exact vars_none xs
theorem comp_core (n : Nat) (P : Nat → Value → Prop) (need : Own → Prop) (J : Nat → List Value → Own → Prop) (xs : List Str) (Fv Fo G : List (Str × Value)) {elt target iter : Expr} {ifs : List Expr} {scope : Scope} {cl : List (Str × Addr)} {pos : Pos} {it : Value}
    {RR : Value → Addr → Result → Shared → Prop}
    (rd : Ready prog w A B L N l σ φ s₀ n P need it s) (j : J 0 [] σ) (e : EnvOk env L N) (eF : EnvF env φ Fo) (hg : env.globals = mainGlobals) (hb : env.builtins = builtinsNs)
    (hcl : ∀ x c, (x, NameKind.free) ∈ scope.names → env.cells.lookup x = some c → cl.lookup x = some c)
    (hcell : ∀ y ∈ scope.names, y.2 ≠ .cell) (hkind : scope.kind = .function) (hnd : xs.Nodup) (hx : ∀ x ∈ xs, scope.names.lookup x = some .local ∧ (x == ("__debug__" : Str)) = false)
    (hG : ∀ p ∈ G, scope.names.lookup p.1 = some .globalImplicit ∧ (p.1 == ("__debug__" : Str)) = false ∧ GlobIs B p.1 p.2)
    (hF : ∀ p ∈ Fv, scope.names.lookup p.1 = some .free ∧ (p.1 == ("__debug__" : Str)) = false ∧ (p.1 == ("__classdict__" : Str)) = false ∧ ((∃ k, k ≠ none ∧ GetV N l p.1 k p.2) ∨ p ∈ Fo))
    (hneed : ∀ i ys σ, J i ys σ → need σ) (hsz : n ≤ sizeLine) (hlen : ∀ i ys σ, J i ys σ → ys.length ≤ i)
    (turn : ∀ i v ys σ cenv C φ' s, i < n → P i v → J i ys σ → EnvOk cenv C (xs.map (·, none)) → EnvF cenv φ' Fv → EnvG B cenv G → St B C (xs.map (·, none)) (xs.map fun _ => none) σ φ' s₀ s →
      wpAny (model prog w) A (assign target cenv v) (fun _ s₁ => wpAny (model prog w) A (forIn ifs true fun c r => if r = true then do let ok ← isTrue c cenv (eval c cenv); pure (ForInStep.yield ok) else pure (ForInStep.yield r))
        (fld fun ok s₂ => if ok = true then wpAny (model prog w) A (eval elt cenv) (fld fun y s₃ => ∃ l₃ σ₃, J (i + 1) (ys ++ [y]) σ₃ ∧ St B C (xs.map (·, none)) l₃ σ₃ φ' s₀ s₃) Nev s₂
          else ∃ l₃ σ₃, J (i + 1) ys σ₃ ∧ St B C (xs.map (·, none)) l₃ σ₃ φ' s₀ s₂) Nev s₁) Nev s)
    (fin : ∀ D C ys σ s, J n ys σ → σ D = none → σ C = none → D ≠ C → St B L N l (upd (upd σ D (IsL ys)) C IsNs) φ s₀ s → RR (.ref D) C (.ok .next) s)
    (ht : ∀ it v, letOwnedTupleGo target it v = pure ()) :
    wpAny (model prog w) A (newList []) (fun acc s₃ => wpAny (model prog w) A (newFunctionEnv scope env.globals cl [] env.qual none .none (some env)) (fun cenv s₄ =>
      codeAny (model prog w) A (.compStart (.ListComp elt [⟨target, iter, ifs, 0⟩] scope pos) 0 it acc { cenv with scope := relabel scope env }) (RR acc cenv.locals) s₄) E s₃) E s := by
  obtain ⟨I, At, rfl, IT, hI, hn, S⟩ := rd
  exact comp_coreT (E := E) (RR := RR) n P need J xs Fv Fo G IT hI hn S j e eF hg hb hcl hcell hkind hnd hx hG hF hneed hsz hlen turn fin fun _ v _ _ _ _ _ _ _ _ q => by rw [ht]; exact wpAny_pure q
/-- the names that a comprehension's block takes -/
structure CompOk (B : Heap) (env : Env) (N : List (Str × Option Addr)) (l : List (Option Value)) (Fo : List (Str × Value)) (scope : Scope) (xs : List Str) (Fv G : List (Str × Value)) : Prop where
  free : ∀ x, (x, NameKind.free) ∈ scope.names → (∃ k v, k ≠ none ∧ GetV N l x k v) ∨ ∃ v, (x, v) ∈ Fo
  names : ∀ x ∈ scope.names, x.2 = .local → scope.names.lookup x.1 = some .local
  nocell : ∀ y ∈ scope.names, y.2 ≠ .cell
  kind : scope.kind = .function
  nodup : xs.Nodup
  loc : ∀ x ∈ xs, scope.names.lookup x = some .local ∧ (x == ("__debug__" : Str)) = false
  glob : ∀ p ∈ G, scope.names.lookup p.1 = some .globalImplicit ∧ (p.1 == ("__debug__" : Str)) = false ∧ GlobIs B p.1 p.2
  frees : ∀ p ∈ Fv, scope.names.lookup p.1 = some .free ∧ (p.1 == ("__debug__" : Str)) = false ∧ (p.1 == ("__classdict__" : Str)) = false ∧ ((∃ k, k ≠ none ∧ GetV N l p.1 k p.2) ∨ p ∈ Fo)
  mg : env.globals = mainGlobals
  mb : env.builtins = builtinsNs
theorem CompOk.closure {Fo Fv G : List (Str × Value)} {scope : Scope} {xs : List Str} (c : CompOk B env N l Fo scope xs Fv G) (e : EnvOk env L N) (eF : EnvF env φ Fo) :
    ∃ cl, closureFor scope env = pure cl ∧ ∀ x c, (x, NameKind.free) ∈ scope.names → env.cells.lookup x = some c → cl.lookup x = some c := by
  refine closureFor_of fun x hx => ?_
  rcases c.free x hx with ⟨k, v, hk, g⟩ | ⟨v, g⟩
  · cases k with
    | none => exact absurd rfl hk
    | some c => exact ⟨c, (e.cell x c g.mem).2⟩
  · obtain ⟨_, _, c, o, h1, _⟩ := eF.free _ g; exact ⟨c, h1⟩

theorem comp_j (n : Nat) (P : Nat → Value → Prop) (need : Own → Prop) (J : Nat → List Value → Own → Prop) (xs : List Str) (Fv Fo G : List (Str × Value)) {elt target iter : Expr} {ifs : List Expr} {scope : Scope} {pos : Pos} {Q : Value → Shared → Prop}
    (S : St B L N l σ φ s₀ s) (e : EnvOk env L N) (eF : EnvF env φ Fo) (ok : CompOk B env N l Fo scope xs Fv G)
    (hi : wpAny (model prog w) A (eval iter env) (fld fun xv s₁ => wpAny (model prog w) A (pyIter xv) (fun it s₂ => ∃ σ, Ready prog w A B L N l σ φ s₀ n P need it s₂ ∧ J 0 [] σ) E s₁) E s)
    (hneed : ∀ i ys σ, J i ys σ → need σ) (hsz : n ≤ sizeLine) (hlen : ∀ i ys σ, J i ys σ → ys.length ≤ i)
    (turn : ∀ i v ys σ cenv C φ' s, i < n → P i v → J i ys σ → EnvOk cenv C (xs.map (·, none)) → EnvF cenv φ' Fv → EnvG B cenv G → St B C (xs.map (·, none)) (xs.map fun _ => none) σ φ' s₀ s →
      wpAny (model prog w) A (assign target cenv v) (fun _ s₁ => wpAny (model prog w) A (forIn ifs true fun c r => if r = true then do let ok ← isTrue c cenv (eval c cenv); pure (ForInStep.yield ok) else pure (ForInStep.yield r))
        (fld fun ok s₂ => if ok = true then wpAny (model prog w) A (eval elt cenv) (fld fun y s₃ => ∃ l₃ σ₃, J (i + 1) (ys ++ [y]) σ₃ ∧ St B C (xs.map (·, none)) l₃ σ₃ φ' s₀ s₃) Nev s₂
          else ∃ l₃ σ₃, J (i + 1) ys σ₃ ∧ St B C (xs.map (·, none)) l₃ σ₃ φ' s₀ s₂) Nev s₁) Nev s)
    (fin : ∀ D ys σ s, J n ys σ → σ D = none → St B L N l (upd σ D (IsL ys)) φ s₀ s → Q (.ref D) s)
    (ht : ∀ it v, letOwnedTupleGo target it v = pure ()) (hs : ∀ x, foldedSetIterable iter env x = pure x) :
    wpAny (model prog w) A (eval (.ListComp elt [⟨target, iter, ifs, 0⟩] scope pos) env) Q E s := by
  obtain ⟨cl, hc1, hc2⟩ := ok.closure e eF
  rw [eval_ListComp]
  refine wpAny_comprehension_free (use := none) rfl hs hc1 ok.kind ok.names (wpAny_mono hi (fun xv s₁ h₁ => wpAny_mono h₁ (fun it s₂ h₂ => ?_) fun _ _ x => x) fun _ _ x => x)
  obtain ⟨σ, rd, j⟩ := h₂
  refine comp_core (RR := fun acc C => compPost (model prog w) A E none Q acc C) n P need J xs Fv Fo G rd j e eF ok.mg ok.mb hc2 ok.nocell ok.kind ok.nodup ok.loc ok.glob ok.frees hneed hsz hlen turn ?_ ht
  intro D C ys σ s j hD hC hDC S
  obtain ⟨oC, hoC, nsC⟩ := S.own C _ upd_self
  obtain ⟨m, hm⟩ := nsC.ns hoC
  refine ⟨m, hm, fun h' hs' => fin D ys σ _ j hD ?_⟩
  refine S.drop (t := s.toks) upd_self (KeepBut.of hs') fun a P q => ?_
  have : a ≠ C := (by first | exact ne_sn q (((upd_ne (Ne.symm hDC))).trans hC) | exact ne_ns q (((upd_ne (Ne.symm hDC))).trans hC) | exact ne_sn (((upd_ne (Ne.symm hDC))).trans hC) q | exact ne_ns (((upd_ne (Ne.symm hDC))).trans hC) q)
  exact ⟨this, by rw [upd_ne this]; exact q⟩

/-- a comprehension that is bound to a name of the frame at once -/
theorem comp_set_j (n : Nat) (P : Nat → Value → Prop) (need : Own → Prop) (J : Nat → List Value → Own → Prop) (xs : List Str) (Fv Fo G : List (Str × Value)) {elt target iter : Expr} {ifs : List Expr} {scope : Scope} {pos : Pos} {z : Str} {kz : Option Addr} {pz spos : Pos} {Q : Flow → Shared → Prop}
    (l' : Addr → List (Option Value))
    (S : St B L N l σ φ s₀ s) (e : EnvOk env L N) (eF : EnvF env φ Fo) (ok : CompOk B env N l Fo scope xs Fv G)
    (hi : wpAny (model prog w) A (eval iter env) (fld fun xv s₁ => wpAny (model prog w) A (pyIter xv) (fun it s₂ => ∃ σ, Ready prog w A B L N l σ φ s₀ n P need it s₂ ∧ J 0 [] σ) E s₁) E s)
    (hneed : ∀ i ys σ, J i ys σ → need σ) (hsz : n ≤ sizeLine) (hlen : ∀ i ys σ, J i ys σ → ys.length ≤ i)
    (turn : ∀ i v ys σ cenv C φ' s, i < n → P i v → J i ys σ → EnvOk cenv C (xs.map (·, none)) → EnvF cenv φ' Fv → EnvG B cenv G → St B C (xs.map (·, none)) (xs.map fun _ => none) σ φ' s₀ s →
      wpAny (model prog w) A (assign target cenv v) (fun _ s₁ => wpAny (model prog w) A (forIn ifs true fun c r => if r = true then do let ok ← isTrue c cenv (eval c cenv); pure (ForInStep.yield ok) else pure (ForInStep.yield r))
        (fld fun ok s₂ => if ok = true then wpAny (model prog w) A (eval elt cenv) (fld fun y s₃ => ∃ l₃ σ₃, J (i + 1) (ys ++ [y]) σ₃ ∧ St B C (xs.map (·, none)) l₃ σ₃ φ' s₀ s₃) Nev s₂
          else ∃ l₃ σ₃, J (i + 1) ys σ₃ ∧ St B C (xs.map (·, none)) l₃ σ₃ φ' s₀ s₂) Nev s₁) Nev s)
    (hset : ∀ D, SetV N l z kz (some (.ref D)) (l' D))
    (fin : ∀ D ys σ s, J n ys σ → σ D = none → St B L N (l' D) (upd σ D (IsL ys)) φ s₀ s → Q .next s)
    (hsw : swapsWith (.ListComp elt [⟨target, iter, ifs, 0⟩] scope pos) (some (.Name z pz)) spos.line env = pure true)
    (ht : ∀ it v, letOwnedTupleGo target it v = pure ()) (hs : ∀ x, foldedSetIterable iter env x = pure x) :
    wpAny (model prog w) A (exec (.Assign [.Name z pz] (.ListComp elt [⟨target, iter, ifs, 0⟩] scope pos) spos) env) Q E s := by
  obtain ⟨cl, hc1, hc2⟩ := ok.closure e eF
  rw [exec_Assign_Name_used _ _ _ _ hsw]
  refine wpAny_bind (wpAny_standAt (wpAny_bind ?_))
  show wpAny _ A (do let _ ← comprehension (.ListComp elt [⟨target, iter, ifs, 0⟩] scope pos) scope env _ (newList []) false (eval iter env) (some (assign (.Name z pz) env))) _ _ s
  refine wpAny_bind (wpAny_mono (wpAny_comprehension_free (use := some (assign (.Name z pz) env)) (Q := fun _ s' => Q .next s') rfl hs hc1 ok.kind ok.names (wpAny_mono hi (fun xv s₁ h₁ => wpAny_mono h₁ (fun it s₂ h₂ => ?_) fun _ _ x => x) fun _ _ x => x))
    (fun _ s' hq => wpAny_pure (wpAny_pure hq)) fun _ _ x => x)
  obtain ⟨σ, rd, j⟩ := h₂
  refine comp_core (RR := fun acc C => compPost (model prog w) A E (some (assign (.Name z pz) env)) (fun _ s' => Q .next s') acc C) n P need J xs Fv Fo G rd j e eF ok.mg ok.mb hc2 ok.nocell ok.kind ok.nodup ok.loc ok.glob ok.frees hneed hsz hlen turn ?_ ht
  intro D C ys σ s j hD hC hDC S
  refine wpAny_assign_Name (store_v e S (hset D) fun s' S' => ?_)
  obtain ⟨oC, hoC, nsC⟩ := S'.own C _ upd_self
  obtain ⟨m, hm⟩ := nsC.ns hoC
  refine ⟨m, hm, fun h' hs' => fin D ys σ _ j hD ?_⟩
  refine S'.drop (t := s'.toks) upd_self (KeepBut.of hs') fun a P q => ?_
  have : a ≠ C := (by first | exact ne_sn q (((upd_ne (Ne.symm hDC))).trans hC) | exact ne_ns q (((upd_ne (Ne.symm hDC))).trans hC) | exact ne_sn (((upd_ne (Ne.symm hDC))).trans hC) q | exact ne_ns (((upd_ne (Ne.symm hDC))).trans hC) q)
  exact ⟨this, by rw [upd_ne this]; exact q⟩
end
end
section
open PySem PySem.W PyProof.Rows
section
variable {B : Heap} {L : Addr} {N : List (Str × Option Addr)} {l : List (Option Value)} {σ : Own} {φ : Frz} {s₀ s : Shared}
variable {prog : Program} {w : World} {A : Around} {E : Value → Shared → Prop} {env : Env}
/-- a rule of the library in its own words: the frame, all else kept -/
theorem St.growN (S : St B L N l σ φ s₀ s) {h' : Heap} {m : Str → Option Value} (hV : Vars s.heap m N l) (F : Fr B L h' m) (Nw : News B L h' (rest B L s.heap)) (t : Nat) : St B L N l σ φ s₀ { s with heap := h', toks := t } := by
  have hs : ∀ b o, b ≠ L → s.heap.get? b = some o → h'.get? b = some o := fun b o hb e => by
    cases q : B.get? b with
    | none => exact (Nw (b, o) (mem_rest.mpr ⟨e, hb, q⟩)).1
    | some o₂ => have := S.base b o₂ q; rw [e] at this; cases this; exact F.keep b _ q
  exact { base := F.keep, above := S.above, vars := ⟨m, F.ns, hV.heap fun x c v hm ⟨o, q, r⟩ => ⟨o, hs c o (S.cells x c hm).1 q, r⟩⟩, offσ := S.offσ, offφ := S.offφ, cells := S.cells
          own := fun a P e => let ⟨o, ho, q⟩ := S.own a P e; ⟨o, hs a o ((by first | exact ne_sn e S.offσ | exact ne_ns e S.offσ | exact ne_sn S.offσ e | exact ne_ns S.offσ e)) ho, q⟩, ownB := S.ownB
          frm := fun a P e => let ⟨o, ho, p⟩ := S.frm a P e; ⟨o, hs a o ((by first | exact ne_sn e S.offφ | exact ne_ns e S.offφ | exact ne_sn S.offφ e | exact ne_ns S.offφ e)) ho, p⟩, apart := S.apart, gens := S.gens, drawn := S.drawn, os := S.os }
theorem St.madeN (S : St B L N l σ φ s₀ s) {h' : Heap} {m : Str → Option Value} {a : Addr} {o : Obj} {P : Obj → Prop} (hV : Vars s.heap m N l) (F : Fr B L h' m) (Nw : News B L h' ((a, o) :: rest B L s.heap)) (ha : s.heap.get? a = none) (hp : P o) (t : Nat) :
    St B L N l (upd σ a P) φ s₀ { s with heap := h', toks := t } := by
  refine (S.growN hV F (fun p hp => Nw p (.tail _ hp)) t).take ⟨o, (Nw _ (.head _)).1, hp⟩ (fun e => ?_) (fun x c hm e => ?_) (S.freeB ha) (S.freeφ ha)
  · subst e; obtain ⟨o, ho⟩ := S.L_in; rw [ha] at ho; cases ho
  · subst e
    obtain ⟨v, o, ho, _⟩ := hV.has_cell hm
    rw [ha] at ho; cases ho

theorem mul_l {a : Addr} {v : Value} {n : Nat} {u : Tok} {Q : Value → Shared → Prop} (S : St B L N l σ φ s₀ s) (h : σ a = some (IsL [v])) (hn : n ≤ 1000000)
    (hq : ∀ b s', σ b = none → St B L N l (upd σ b (IsL (List.replicate n v))) φ s₀ s' → Q (.ref b) s') : wpAny (model prog w) A (binaryOp .Mult (.ref a) (.int n u)) Q E s := by
  obtain ⟨k, ho⟩ := S.isL h
  obtain ⟨m, F, hV⟩ := S.fr
  refine mul_list F news_rest ho (by omega) (by omega) (by simp; omega) fun h' F' N' => hq _ _ S.fresh (S.madeN (P := IsL (List.replicate n v)) hV F' N' size_none ⟨0, ?_⟩ s.toks)
  have e : ∀ (n : Nat) (acc : List Value), List.foldl (fun x1 x2 => x1 ++ x2) acc.toArray (List.replicate n [v].toArray) = (acc ++ List.replicate n v).toArray := by
    intro n
    induction n with
    | zero => intro acc; simp
    | succ n ih =>
      intro acc
      rw [List.replicate_succ, List.foldl_cons]
      have : acc.toArray ++ [v].toArray = (acc ++ [v]).toArray := by simp
      rw [this, ih]
      simp [List.replicate_succ]
  have := e n []
  simp at this ⊢
  exact this

/-- a list literal, a tuple's -/
theorem swaps_yes {z : Str} {pz spos pos : Pos} {elt : Expr} {gens : List Comprehension} {scope : Scope} (e : EnvOk env L N) (hz : (z, none) ∈ N) (hl : (pz.line == pos.line) = true) (hn : (scope.names.any fun x => x.1 == z && (x.2 == .local || x.2 == .cell)) = false) :
    swapsWith (.ListComp elt gens scope pos) (some (.Name z pz)) spos.line env = pure true := by
  unfold swapsWith
  have h1 : (env.blockKind == ScopeKind.function) = true := by
    unfold Env.blockKind
    simp [e.kind, ScopeKind.isAnnotationScope]
  have h2 : (env.kindOf z == some NameKind.local) = true := by rw [e.loc z hz]; rfl
  have h3 : (Expr.ListComp elt gens scope pos).pos = pos := rfl
  have h4 : (Expr.Name z pz).pos = pz := rfl
  simp only [h1, h2, h3, h4, hl, Bool.true_and]
  have : (scope.names.any fun x => match x with | (n, k) => n == z && (k == NameKind.local || k == NameKind.cell)) = false := hn
  simp only [this]
  rfl
end
end
section
open PySem PySem.W PyProof.Rows
abbrev nm (x : String) : Str := Str.ofString x
abbrev PR : Program := Challenge.rw_mj0236_01.row.prog
/-- the names that the functions look up -/
noncomputable def glb : List (Str × Value) := [(nm "len", .builtin "len"), (nm "range", .type "range"), (nm "reversed", .type "reversed"), (nm "sum", .builtin "sum"), (nm "list", .type "list"), (nm "tuple", .type "tuple"), (nm "bool", .type "bool"), (nm "min", .builtin "min"), (nm "set", .type "set"), (nm "iter", .builtin "iter"), (nm "StopIteration", .type "StopIteration"),
  (nm "heappush", .ref 28), (nm "heappop", .ref 35), (nm "heapify", .ref 42), (nm "_siftdown", .ref 49), (nm "_siftup", .ref 56), (nm "_law_tied", .ref 181), (nm "_law_met", .ref 186), (nm "_law_columns", .ref 191), (nm "_law_run", .ref 198), (nm "_law_plain", .ref 203), (nm "_NODE_OUT", .int (-1) 250), (nm "_NODE_DONE", .int (-2) 253), (nm "_NodeInfo", .ref 75), (nm "TopologicalSorter", .ref 172)]
structure Base (w : World) (B : Heap) : Prop where
  X : (hd.heap_39 w.params).In B
  lim : B.NoLimit
  glob : ∀ p ∈ glb, GlobIs B p.1 p.2
  sysm : ∃ o, B.get? sysModules = some o
theorem Base.get {w : World} {B : Heap} (b : Base w B) {a : Addr} {o : Obj} (h : (hd.heap_39 w.params).lookup a = some o) : B.get? a = some o := b.X a o h
theorem Base.globs {w : World} {B : Heap} {G : List (Str × Value)} (b : Base w B) (h : G.all (fun p => glb.contains p) = true) : ∀ p ∈ G, GlobIs B p.1 p.2 := fun p hp => by
  have := List.all_eq_true.mp h p hp
  exact b.glob p (by simpa using this)
theorem cells_loc {names : List (Str × NameKind)} {binds : List (Str × Value)} (h : binds.all (fun x => names.lookup x.1 == some .local) = true) (n : Nat) :
    ∀ x ∈ binds, names.lookup x.1 = some .local ∨ (names.lookup x.1 = some .cell ∧ ((cellsFrom n names []).lookup x.1).isSome = true) := fun x hx => .inl (beq_iff_eq.mp (List.all_eq_true.mp h x hx))
theorem cells_some {names : List (Str × NameKind)} {x : Str} (n : Nat) (acc : List (Str × Addr)) (h : (x, NameKind.cell) ∈ names ∨ (acc.lookup x).isSome = true) : ((cellsFrom n names acc).lookup x).isSome = true := by
  induction names generalizing n acc with
  | nil => rcases h with h | h; cases h; exact h
  | cons p r ih =>
    obtain ⟨y, k⟩ := p
    unfold cellsFrom
    split
    · rename_i hk
      refine ih _ _ ?_
      by_cases e : x = y
      · right; subst e; simp
      · rcases h with h | h
        · rcases List.mem_cons.mp h with h | h
          · cases h; exact absurd rfl e
          · exact .inl h
        · right
          rw [List.lookup_cons]
          have : (x == y) = false := by simpa using e
          rw [this]; exact h
    · rename_i hk
      refine ih _ _ ?_
      rcases h with h | h
      · rcases List.mem_cons.mp h with h | h
        · cases h; exact absurd rfl hk
        · exact .inl h
      · exact .inr h
theorem cells_mix {names : List (Str × NameKind)} {binds : List (Str × Value)} (h : binds.all (fun x => names.lookup x.1 == some .local || (names.lookup x.1 == some .cell && names.contains (x.1, .cell))) = true) (n : Nat) :
    ∀ x ∈ binds, names.lookup x.1 = some .local ∨ (names.lookup x.1 = some .cell ∧ ((cellsFrom n names []).lookup x.1).isSome = true) := fun x hx => by
  have := List.all_eq_true.mp h x hx
  rcases Bool.or_eq_true_iff.mp this with h | h
  · exact .inl (beq_iff_eq.mp h)
  · obtain ⟨h1, h2⟩ := Bool.and_eq_true_iff.mp h
    exact .inr ⟨beq_iff_eq.mp h1, cells_some n [] (.inl (by simpa using h2))⟩
theorem some_cells {names : List (Str × NameKind)} {N : List (Str × Bool)} (h : N.all (fun x => !x.2 || names.contains (x.1, .cell)) = true) (n : Nat) : ∀ x ∈ N, x.2 = true → ((cellsFrom n names []).lookup x.1).isSome = true := fun x hx e => by
  have := List.all_eq_true.mp h x hx
  rw [e] at this
  exact cells_some n [] (.inl (by simpa using this))
theorem no_cells {names : List (Str × NameKind)} {N : List (Str × Bool)} (h : N.all (fun x => !x.2) = true) (n : Nat) : ∀ x ∈ N, x.2 = true → ((cellsFrom n names []).lookup x.1).isSome = true := fun x hx e => by
  have := List.all_eq_true.mp h x hx
  rw [e] at this; cases this

section
variable {B : Heap} {prog : Program} {w : World} {A : Around} {E : Value → Shared → Prop} {s : Shared} {env : Env}
theorem callWith_B {pos : Pos} {f : Value} {first : List Value} {e : Expr} {rest : List Expr} {Q : Value → Shared → Prop} (hB : Base w B) (hk : keepIn (hd.heap_39 w.params) f = true)
    (h : wpAny (model prog w) A (spliced (backTo pos (starEach (e :: rest) env))) (fun vs s₁ => (∃ L N l σ φ s₀, St B L N l σ φ s₀ s₁) ∧ wpAny (model prog w) A (call f (first ++ vs)) Q E s₁) E s)
    (he : starEach (e :: rest) env = (false, eval e env) :: starEach rest env := by rfl) (hplain : (backTo pos (starEach rest env)).any (·.1) = false := by rfl) :
    wpAny (model prog w) A (callWith pos f first (backTo pos (starEach (e :: rest) env)) []) Q E s :=
  callWith_K hB.X hk (wpAny_mono h (fun _ _ h₁ => ⟨let ⟨_, _, _, _, _, _, S⟩ := h₁.1; hB.X.keeps S.base, h₁.2⟩) fun _ _ x => x) he hplain
theorem callWith_B0 {pos : Pos} {f : Value} {first : List Value} {L : Addr} {N : List (Str × Option Addr)} {l : List (Option Value)} {σ : Own} {φ : Frz} {s₀ : Shared} {Q : Value → Shared → Prop} (hB : Base w B) (hk : keepIn (hd.heap_39 w.params) f = true) (S : St B L N l σ φ s₀ s)
    (h : wpAny (model prog w) A (call f (first ++ [])) Q E s) : wpAny (model prog w) A (callWith pos f first (backTo pos (starEach [] env)) []) Q E s :=
  callWith_K0 (hB.X.keeps S.base) hk h
theorem wpAny_Expr_v {e : Expr} {pos : Pos} {L : Addr} {N : List (Str × Option Addr)} {Q : Flow → Shared → Prop} (h : wpAny (model prog w) A (eval e env) (fun v s' => v = .none ∧ Q .next s') E s)
    (hk : EnvOk env L N) (hs : swapsWith e none pos.line env = pure false := by rfl) : wpAny (model prog w) A (exec (.Expr e pos) env) Q E s := by
  refine wpAny_Expr (wpAny_mono h (fun v s' h' => ?_) fun _ _ x => x) ?_ hs
  · obtain ⟨rfl, h'⟩ := h'; exact h'
  · unfold interactive; simp [hk.kind]
end
end
set_option compiler.extract_closed false
local macro_rules | `(tactic| walk_at "gv") => `(tactic| with_reducible first | exact GetV.head | (apply GetV.tail; walk_at "gv"))
local macro_rules | `(tactic| walk_at "sv") => `(tactic| with_reducible first | exact SetV.head | (apply SetV.tail; walk_at "sv"))
local macro_rules | `(tactic| walk_at "mm") => `(tactic| with_reducible first | exact List.mem_cons_self | (apply List.mem_cons_of_mem; walk_at "mm"))
local macro_rules | `(tactic| walk_at "less") => `(tactic| with_reducible first | exact Less.nil | (refine Less.keep ?_; walk_at "less") | (refine Less.drop ?_; walk_at "less"))
local macro_rules | `(tactic| walk_at "init") => `(tactic| repeat' (first | exact Init.nil | refine Init.loc ?_ ?_ | refine Init.cell ?_ ?_ | (intro u e; cases e; rfl) | (intro u e; cases e)))
set_option hygiene false in
local macro_rules | `(tactic| walk_at "m1") => `(tactic| (first
  | (with_reducible first
    | refine fld_in ?_; intro KK hKK
    | refine wpAny_execs_cons ?_
    | refine wpAny_execs_nil ?_
    | refine name_v (by assumption) (by assumption) (by walk_at "gv") ?_
    | refine name_g (by assumption) (by assumption) (by walk_at "mm") ?_
    | refine name_f (by assumption) (by assumption) (by walk_at "mm") ?_
    | refine loadName_v (by assumption) (by assumption) (by walk_at "gv") ?_
    | refine store_v (by assumption) (by assumption) (by walk_at "sv") ?_; intro s S
    | refine const_v (by assumption) ?_; intro t s S
    | refine Constant_bool ?_
    | refine wpAny_assign_Name ?_
    | refine wpAny_tests_nil ?_
    | refine wpAny_tests_one ?_
    | refine List_ ?_
    | refine Tuple_ ?_
    | refine UnaryOp_ ?_
    | refine not_of ?_
    | refine neg_v (by assumption) ?_; intro t s S
    | refine plainObj_wpAny_Assign_Attribute ?_ (by with_unfolding_all rfl)
    | refine Attribute_any_ ?_ (by with_unfolding_all rfl)
    | refine wpAny_AugAssign_AttributeAny ?_
    | refine wpAny_NamedExpr ?_
    | refine wpAny_Assign_two ?_ (by with_unfolding_all rfl) (by with_unfolding_all rfl)
    | refine asgn_sub ?_
    | refine len_t (by assumption) (by assumption) (by simp) ?_; intro t s S
    | refine is_none ?_
    | refine isNot_none ?_
    | refine slice_v (B := B) ?_
    | refine evalPart_none_step ?_
    | refine evalPart_some_step ?_
    | refine ⟨_, _, _, _, _, _, by assumption, ?_⟩
    | refine Constant_none ?_
    | refine Subscript_ ?_
    | refine wpAny_BinOp ?_
    | refine add_v (by assumption) ?_; intro t s S
    | refine sub_v (by assumption) ?_; intro t s S
    | refine iadd_v (by assumption) ?_; intro t s S
    | refine isub_v (by assumption) ?_; intro t s S
    | refine wpAny_AugAssign_Name ?_
    | refine wpAny_Assign_Name ?_ (by with_unfolding_all rfl)
    | refine wpAny_Assign_Subscript ?_ (by with_unfolding_all rfl)
    | refine wpAny_isTrue_Compare1 ?_ (by with_unfolding_all rfl)
    | refine wpAny_Compare1 ?_ (by with_unfolding_all rfl)
    | refine isTrue_not ?_
    | refine isTrue_and ?_
    | refine isTrue_and_nil ?_
    | refine isTrue_or ?_
    | refine isTrue_or_nil ?_
    | refine ⟨⟨_, _, _, _, _, _, by assumption⟩, ?_⟩
    | refine wpAny_Expr_v ?_ (by assumption) (by with_unfolding_all rfl)
    | refine PyProof.Rows.lt_int ?_
    | refine gt_int ?_
    | refine PyProof.Rows.le_int ?_
    | refine eq_int ?_
    | refine ne_int ?_
    | refine wpAny_truthy_bool ?_
    | refine wpAny_Continue ?_
    | refine wpAny_Break ?_
    | refine wpAny_Return_some ?_
    | refine wpAny_Return_none ?_
    | refine Call_ ?_ (by with_unfolding_all rfl)
    | refine MethodCall_ ?_ (by with_unfolding_all rfl)
    | refine args_cons ?_ (by with_unfolding_all rfl)
    | refine args_nil ?_
    | refine callWith_builtin1 ?_ (by with_unfolding_all rfl) (by with_unfolding_all rfl)
    | refine callWith_method0 ?_
    | refine PyProof.Rows.callWith_type1 ?_ (by with_unfolding_all rfl) (by with_unfolding_all rfl)
    | refine PyProof.Rows.callWith_type0 ?_
    | refine callWith_B hB (by with_unfolding_all rfl) ?_ (by with_unfolding_all rfl) (by with_unfolding_all rfl)
    | refine callWith_B0 hB (by with_unfolding_all rfl) (by assumption) ?_
    | refine ite_tt ?_
    | refine ite_ff ?_
    | refine ite_nt ?_
    | refine ite_nf ?_
    | refine callWith_method1 ?_ (by with_unfolding_all rfl) (by with_unfolding_all rfl)
    | refine isTrue_plain ?_ (by with_unfolding_all rfl)
    | refine fld_out (by assumption) ?_)
  | (dsimp only [List.cons_append, List.nil_append]; walk_at "m1")
  ))
local macro_rules | `(tactic| walk_at "m") => `(tactic| ((repeat walk_at "m1"); try dsimp only [List.cons_append, List.nil_append]))

section
open PySem PySem.W PyProof.Rows
/-- sifting up towards the root -/
noncomputable def sd {α : Type} (lt : α → α → Bool) (x : α) (st : Nat) (xs : List α) (pos : Nat) : List α :=
  if h : st < pos then
    if lt x (xs.getD ((pos - 1) / 2) x) = true then sd lt x st (xs.set pos (xs.getD ((pos - 1) / 2) x)) ((pos - 1) / 2) else xs.set pos x
  else xs.set pos x
termination_by pos
decreasing_by omega
theorem sd_stop {α : Type} {lt : α → α → Bool} {x : α} {st : Nat} {xs : List α} {pos : Nat} (h : ¬ st < pos) : sd lt x st xs pos = xs.set pos x := by rw [sd]; simp [h]
theorem sd_go {α : Type} {lt : α → α → Bool} {x p : α} {st : Nat} {xs : List α} {pos : Nat} (h : st < pos) (hp : xs[(pos - 1) / 2]? = some p) (hl : lt x p = true) : sd lt x st xs pos = sd lt x st (xs.set pos p) ((pos - 1) / 2) := by
  rw [sd]
  have : xs.getD ((pos - 1) / 2) x = p := by rw [List.getD_eq_getElem?_getD, hp]; rfl
  simp only [h, this, hl, dite_true, if_true, if_false, Bool.false_eq_true]
theorem sd_end {α : Type} {lt : α → α → Bool} {x p : α} {st : Nat} {xs : List α} {pos : Nat} (h : st < pos) (hp : xs[(pos - 1) / 2]? = some p) (hl : lt x p = false) : sd lt x st xs pos = xs.set pos x := by
  rw [sd]
  have : xs.getD ((pos - 1) / 2) x = p := by rw [List.getD_eq_getElem?_getD, hp]; rfl
  simp only [h, this, hl, dite_true, if_true, if_false, Bool.false_eq_true]

/-- the model's < on two values says b -/
def CmpOk (w : World) (σ : Own) (v u : Value) (b : Bool) : Prop := ∀ (A : Around) (B : Heap) (L : Addr) (N : List (Str × Option Addr)) (l : List (Option Value)) (φ : Frz) (s₀ s : Shared) (Q : Value → Shared → Prop) (E : Value → Shared → Prop),
  Rm A 0 → St B L N l σ φ s₀ s → (∀ s', St B L N l σ φ s₀ s' → Q (.bool b) s') → wpAny (model PR w) A (compareOp .Lt v u) Q E s
theorem CmpOk.int {w : World} {σ : Own} {i j : Int} {t u : Tok} : CmpOk w σ (.int i t) (.int j u) (decide (i < j)) := fun _ _ _ _ _ _ _ _ _ _ _ S h => PyProof.Rows.lt_int (h _ S)

section
variable {w : World} {B : Heap} {A : Around} {L : Addr} {N : List (Str × Option Addr)} {l : List (Option Value)} {σ : Own} {φ : Frz} {s₀ s : Shared}

inductive SdJ (σ : Own) (a : Addr) (vs : List Value) (st p0 : Nat) (t1 : Tok) (x0 : Value) (lt : Value → Value → Bool) (m : Nat) (l' : List (Option Value)) (σ' : Own) : Prop
  | mk (p : Nat) (xs : List Value) (t : Tok) (l5 l6 : Option Value) (h1 : m = p) (h2 : l' = [some (.ref a), some (.int st t1), some (.int p t), some x0, l5, l6]) (h3 : σ' = upd σ a (IsL xs)) (h4 : p < xs.length) (h5 : xs.length = vs.length) (h6 : (∀ v ∈ xs, v ∈ vs)) (h7 : sd lt x0 st xs p = sd lt x0 st vs p0) : SdJ σ a vs st p0 t1 x0 lt m l' σ'
inductive SdK (σ : Own) (a : Addr) (vs : List Value) (st p0 : Nat) (t1 : Tok) (x0 : Value) (lt : Value → Value → Bool) (l' : List (Option Value)) (σ' : Own) : Prop
  | mk (p : Nat) (xs : List Value) (t : Tok) (l5 l6 : Option Value) (h1 : l' = [some (.ref a), some (.int st t1), some (.int p t), some x0, l5, l6]) (h2 : σ' = upd σ a (IsL xs)) (h3 : p < xs.length) (h4 : xs.length = vs.length) (h5 : xs.set p x0 = sd lt x0 st vs p0) : SdK σ a vs st p0 t1 x0 lt l' σ'
theorem sd_spec (hB : Base w B) (R : Rm A 1) (S : St B L N l σ φ s₀ s)
  (a : Addr) (vs : List Value) (st p0 : Nat) (t1 t2 : Tok) (x0 : Value) (lt : Value → Value → Bool) (hv : σ a = some (IsL vs)) (hp : vs[p0]? = some x0) (hsz : vs.length < 1000000)
  (hc : ∀ P, ∀ v ∈ vs, ∀ u ∈ vs, CmpOk w (upd σ a P) v u (lt v u)) (Q : Value → Shared → Prop) (E)
  (k : ∀ s', St B L N l (upd σ a (IsL (sd lt x0 st vs p0))) φ s₀ s' → Q .none s') :
  wpAny (model PR w) A (call (.ref 49) [.ref a, .int st t1, .int p0 t2]) Q E s := by
  refine call_st [(nm "heap", false), (nm "startpos", false), (nm "pos", false), (nm "newitem", false), (nm "parentpos", false), (nm "parent", false)] [some (.ref a), some (.int st t1), some (.int p0 t2), none, none, none] [] (fun v σ' => ∀ s, St B L N l σ' φ s₀ s → Q v s)
    S (by have := R.depth; omega) hB.lim (fun _ h => nomatch h) (hB.X _ _ rfl) rfl (codeRec_of hB.X rfl) rfl rfl rfl rfl rfl (cells_loc rfl) (no_cells rfl) (by decide) rfl (by walk_at "init") ?_ ?_
  · intro env A' L' κ φ' s' _ e eG dA S'
    have R' := R.deeper dA
    dsimp only [List.map] at S' e ⊢
    dsimp only [cond] at S' e ⊢
    walk_at "m"
    have hx0 : x0 ∈ vs := List.mem_of_getElem? hp
    have hp0 : p0 < vs.length := (List.getElem?_eq_some_iff.mp hp).1
    refine item_n S' hv hsz hp ?_
    walk_at "m"
    refine while_q (SdJ σ a vs st p0 t1 x0 lt)
      (SdK σ a vs st p0 t1 x0 lt)
      p0 (S.say (P' := IsL vs) hv (fun _ _ h => h)) ⟨p0, vs, t2, none, none, rfl, rfl, rfl, hp0, rfl, fun _ h => h, rfl⟩ ?_ ?_
    · rintro m l' σ' s ⟨p, xs, t, l5, l6, rfl, rfl, rfl, hpx, hlen, hmem, hsd⟩ S
      walk_at "m"
      by_cases hlt : st < m
      · refine ite_t (by simpa using hlt) ?_
        walk_at "m"
        refine rshift_v S (by omega) fun t s S => ?_
        have e1 : ((m : Int) - 1) / 2 = (((m - 1) / 2 : Nat) : Int) := by (clear hpx hlen hp0 hsz; omega)
        rw [e1]
        walk_at "m"
        have hq : (m - 1) / 2 < xs.length := by (clear hlen hp0 hsz; omega)
        refine item_n S upd_self (by (clear hq e1 hp0; omega)) (List.getElem?_eq_getElem hq) ?_
        walk_at "m"
        refine wpAny_If ?_
        walk_at "m"
        refine hc _ _ hx0 _ (hmem _ (List.getElem_mem hq)) _ _ _ _ _ _ _ _ _ _ R' S fun s S => ?_
        walk_at "m"
        cases hl : lt x0 xs[(m - 1) / 2] with
        | true =>
          walk_at "m"
          refine set_n S upd_self (by omega) (by omega) fun s S => ?_
          rw [upd_upd] at S
          walk_at "m"
          refine ⟨(m - 1) / 2, _, _, by (clear hp0 e1 hpx; omega), ⟨(m - 1) / 2, xs.set m xs[(m - 1) / 2], _, _, _, rfl, rfl, rfl, by simp; omega, by simp [hlen], fun v hv => ?_, ?_⟩, S⟩
          · rcases List.mem_or_eq_of_mem_set hv with h | h
            · exact hmem _ h
            · rw [h]; exact hmem _ (List.getElem_mem hq)
          · rw [← hsd, sd_go hlt (List.getElem?_eq_getElem hq) hl]
        | false =>
          walk_at "m"
          exact ⟨_, _, ⟨m, xs, _, _, _, rfl, rfl, hpx, hlen, by rw [← hsd, sd_end hlt (List.getElem?_eq_getElem hq) hl]⟩, S⟩
      · refine ite_f (by simpa using hlt) ?_
        exact ⟨_, _, ⟨m, xs, t, l5, l6, rfl, rfl, hpx, hlen, by rw [← hsd, sd_stop hlt]⟩, S⟩
    · rintro l' σ' s ⟨p, xs, t, l5, l6, rfl, rfl, hpx, hlen, hset⟩ S
      walk_at "m"
      refine set_n S upd_self (by omega) (by omega) fun s S => ?_
      rw [upd_upd] at S
      walk_at "m"
      exact ⟨_, _, S, fun s S => k s (by rw [← hset]; exact S)⟩
  · intro v σ' s'' h S''; exact h s'' S''
end
end
section
open PySem PySem.W PyProof.Rows
/-- the way down -/
noncomputable def suC {α : Type} (lt : α → α → Bool) (xs : List α) (pos : Nat) : Nat :=
  if h2 : 2 * pos + 1 + 1 < xs.length then (if lt xs[2 * pos + 1] xs[2 * pos + 1 + 1] = true then 2 * pos + 1 else 2 * pos + 1 + 1) else 2 * pos + 1
theorem suC_lt {α : Type} {lt : α → α → Bool} {xs : List α} {pos : Nat} (h : 2 * pos + 1 < xs.length) : suC lt xs pos < xs.length ∧ pos < suC lt xs pos := by
  unfold suC; split <;> (try split) <;> omega
noncomputable def suL {α : Type} (lt : α → α → Bool) (xs : List α) (pos : Nat) : List α × Nat :=
  if h : 2 * pos + 1 < xs.length then suL lt (xs.set pos (xs.getD (suC lt xs pos) xs[2 * pos + 1])) (suC lt xs pos) else (xs, pos)
termination_by xs.length - pos
decreasing_by
  simp only [List.length_set]
  have := suC_lt (lt := lt) h
  (clear h; omega)
theorem suL_go {α : Type} {lt : α → α → Bool} {xs : List α} {pos c : Nat} {v : α} (h : 2 * pos + 1 < xs.length) (hc : suC lt xs pos = c) (hv : xs[c]? = some v) : suL lt xs pos = suL lt (xs.set pos v) c := by
  rw [suL]
  have e : xs.getD (suC lt xs pos) xs[2 * pos + 1] = v := by rw [hc, List.getD_eq_getElem?_getD, hv]; rfl
  simp only [h, dite_true]
  rw [e, hc]
theorem suL_end {α : Type} {lt : α → α → Bool} {xs : List α} {pos : Nat} (h : ¬ 2 * pos + 1 < xs.length) : suL lt xs pos = (xs, pos) := by rw [suL]; simp [h]
noncomputable def su {α : Type} (lt : α → α → Bool) (x : α) (xs : List α) (p : Nat) : List α := sd lt x p ((suL lt xs p).1.set (suL lt xs p).2 x) (suL lt xs p).2

section
variable {w : World} {B : Heap} {A : Around} {L : Addr} {N : List (Str × Option Addr)} {l : List (Option Value)} {σ : Own} {φ : Frz} {s₀ s : Shared}

inductive SuJ (σ : Own) (a : Addr) (vs : List Value) (p0 : Nat) (t2 te : Tok) (x0 : Value) (lt : Value → Value → Bool) (m : Nat) (l' : List (Option Value)) (σ' : Own) : Prop
  | mk (p : Nat) (xs : List Value) (t : Tok) (c : Int) (t5 : Tok) (l7 : Option Value) (h1 : m = xs.length - p) (h2 : l' = [some (.ref a), some (.int p t), some (.int vs.length te), some (.int p0 t2), some x0, some (.int c t5), l7]) (h3 : c = 2 * p + 1) (h4 : σ' = upd σ a (IsL xs)) (h5 : p < xs.length) (h6 : xs.length = vs.length) (h7 : (∀ v ∈ xs, v ∈ vs)) (h8 : suL lt xs p = suL lt vs p0) : SuJ σ a vs p0 t2 te x0 lt m l' σ'
inductive SuK (σ : Own) (a : Addr) (vs : List Value) (p0 : Nat) (t2 te : Tok) (x0 : Value) (lt : Value → Value → Bool) (l' : List (Option Value)) (σ' : Own) : Prop
  | mk (p : Nat) (xs : List Value) (t : Tok) (l6 l7 : Option Value) (h1 : l' = [some (.ref a), some (.int p t), some (.int vs.length te), some (.int p0 t2), some x0, l6, l7]) (h2 : σ' = upd σ a (IsL xs)) (h3 : p < xs.length) (h4 : xs.length = vs.length) (h5 : (∀ v ∈ xs, v ∈ vs)) (h6 : suL lt vs p0 = (xs, p)) : SuK σ a vs p0 t2 te x0 lt l' σ'
inductive SuI (σ : Own) (a : Addr) (vs xs : List Value) (p p0 : Nat) (t2 te tp : Tok) (x0 : Value) (lt : Value → Value → Bool) (l' : List (Option Value)) (σ' : Own) : Prop
  | mk (c : Int) (tc : Tok) (l7 : Option Value) (h1 : l' = [some (.ref a), some (.int p tp), some (.int vs.length te), some (.int p0 t2), some x0, some (.int c tc), l7]) (h2 : c = (suC lt xs p : Nat)) (h3 : σ' = upd σ a (IsL xs)) : SuI σ a vs xs p p0 t2 te tp x0 lt l' σ'
theorem su_spec (hB : Base w B) (R : Rm A 2) (S : St B L N l σ φ s₀ s)
  (a : Addr) (vs : List Value) (p0 : Nat) (t2 : Tok) (x0 : Value) (lt : Value → Value → Bool) (hv : σ a = some (IsL vs)) (hp : vs[p0]? = some x0) (hsz : vs.length < 1000000)
  (hc : ∀ P, ∀ v ∈ vs, ∀ u ∈ vs, CmpOk w (upd σ a P) v u (lt v u)) (Q : Value → Shared → Prop) (E)
  (k : ∀ s', St B L N l (upd σ a (IsL (su lt x0 vs p0))) φ s₀ s' → Q .none s') :
  wpAny (model PR w) A (call (.ref 56) [.ref a, .int p0 t2]) Q E s := by
  refine call_st [(nm "heap", false), (nm "pos", false), (nm "endpos", false), (nm "startpos", false), (nm "newitem", false), (nm "childpos", false), (nm "rightpos", false)] [some (.ref a), some (.int p0 t2), none, none, none, none, none] [(nm "len", .builtin "len"), (nm "_siftdown", .ref 49)] (fun v σ' => ∀ s, St B L N l σ' φ s₀ s → Q v s)
    S (by have := R.depth; omega) hB.lim (hB.globs rfl) (hB.X _ _ rfl) rfl (codeRec_of hB.X rfl) rfl rfl rfl rfl rfl (cells_loc rfl) (no_cells rfl) (by decide) rfl (by walk_at "init") ?_ ?_
  · intro env A' L' κ φ' s' _ e eG dA S'
    have R' := R.deeper dA
    dsimp only [List.map] at S' e ⊢
    dsimp only [cond] at S' e ⊢
    have hx0 : x0 ∈ vs := List.mem_of_getElem? hp
    have hp0 : p0 < vs.length := (List.getElem?_eq_some_iff.mp hp).1
    walk_at "m"
    refine len_l S' hv (by omega) fun te s S => ?_
    walk_at "m"
    refine item_n S hv hsz hp ?_
    walk_at "m"
    refine mul_v S (fun t s S => ?_) (.of_left (by decide))
    walk_at "m"
    refine while_q (SuJ σ a vs p0 t2 te x0 lt)
      (SuK σ a vs p0 t2 te x0 lt)
      (vs.length - p0) (S.say (P' := IsL vs) hv (fun _ _ h => h)) ⟨p0, vs, t2, _, _, none, rfl, rfl, rfl, rfl, hp0, rfl, fun _ h => h, rfl⟩ ?_ ?_
    · rintro m l' σ' s ⟨p, xs, tp, c, t5, l7, rfl, rfl, hce, rfl, hpx, hlen, hmem, hsu⟩ S
      walk_at "m"
      by_cases hlt : 2 * p + 1 < xs.length
      · refine ite_t (by simp; omega) ?_
        have e1 : c = ((2 * p + 1 : Nat) : Int) := by omega
        subst e1
        walk_at "m"
        have hC := suC_lt (lt := lt) hlt
        refine if_j (SuI σ a vs xs p p0 t2 te tp x0 lt) S ?_ ?_
        · walk_at "m"
          by_cases h2 : 2 * p + 1 + 1 < xs.length
          · refine ite_t (by simp; omega) ?_
            walk_at "m"
            have g1 : xs[2 * p + 1]? = some xs[2 * p + 1] := List.getElem?_eq_getElem hlt
            have g2 : xs[2 * p + 1 + 1]? = some xs[2 * p + 1 + 1] := List.getElem?_eq_getElem h2
            refine item_n S upd_self (by omega) g1 ?_
            walk_at "m"
            refine item_n (k := 2 * p + 1 + 1) S upd_self (by omega) g2 ?_
            walk_at "m"
            refine hc _ _ (hmem _ (List.getElem_mem hlt)) _ (hmem _ (List.getElem_mem h2)) _ _ _ _ _ _ _ _ _ _ (R'.less (Nat.zero_le _)) S fun s S => ?_
            walk_at "m"
            cases hl : lt xs[2 * p + 1] xs[2 * p + 1 + 1] with
            | true =>
              walk_at "m"
              refine ⟨rfl, _, _, ⟨_, _, _, rfl, ?_, rfl⟩, S⟩
              unfold suC
              simp [h2, hl]
            | false =>
              walk_at "m"
              walk_at "m"
              refine ⟨rfl, _, _, ⟨_, _, _, rfl, ?_, rfl⟩, S⟩
              unfold suC
              simp [h2, hl]
          · refine ite_f (by simp; (clear hlt hC hp0; omega)) ?_
            walk_at "m"
            refine ⟨rfl, _, _, ⟨_, _, _, rfl, ?_, rfl⟩, S⟩
            unfold suC
            simp [h2]
        · rintro l' σ' s ⟨_, tc, l7, rfl, rfl, rfl⟩ S
          walk_at "m"
          have hq := List.getElem?_eq_getElem hC.1
          refine item_n S upd_self (by omega) hq ?_
          walk_at "m"
          refine set_n S upd_self (by omega) (by omega) fun s S => ?_
          rw [upd_upd] at S
          walk_at "m"
          refine mul_v S (fun t s S => ?_) (.of_left (by decide))
          walk_at "m"
          refine ⟨xs.length - suC lt xs p, _, _, by (clear hlen hp0 hsz; omega), ⟨suC lt xs p, xs.set p xs[suC lt xs p], _, _, _, _, by simp, rfl, rfl, rfl, by simp; omega, by simp [hlen], fun v hv => ?_, ?_⟩, S⟩
          · rcases List.mem_or_eq_of_mem_set hv with h | h
            · exact hmem _ h
            · rw [h]; exact hmem _ (List.getElem_mem hC.1)
          · rw [← hsu, suL_go hlt rfl hq]
      · refine ite_f (by simp; omega) ?_
        exact ⟨_, _, ⟨p, xs, tp, _, _, rfl, rfl, hpx, hlen, hmem, by rw [← hsu, suL_end hlt]⟩, S⟩
    · rintro l' σ' s ⟨p, xs, tp, l6, l7, rfl, rfl, hpx, hlen, hmem, hsu⟩ S
      walk_at "m"
      refine set_n S upd_self (by omega) (by omega) fun s S => ?_
      rw [upd_upd] at S
      walk_at "m"
      refine sd_spec hB R' S a (xs.set p x0) p0 p _ _ x0 lt upd_self (by simp [hpx]) (by simp; omega) (fun P v hv u hu => ?_) _ _ fun s S => ?_
      · rw [upd_upd]
        refine hc P v ?_ u ?_
        · rcases List.mem_or_eq_of_mem_set hv with h | h
          · exact hmem _ h
          · rw [h]; exact hx0
        · rcases List.mem_or_eq_of_mem_set hu with h | h
          · exact hmem _ h
          · rw [h]; exact hx0
      · rw [upd_upd] at S
        refine ⟨rfl, ?_⟩
        walk_at "m"
        refine ⟨_, _, S, fun s S => k s ?_⟩
        unfold su
        rw [hsu]; exact S
  · intro v σ' s'' h S''; exact h s'' S''
end
end
section
open PySem PySem.W PyProof.Rows
section
variable {w : World} {B : Heap} {A : Around} {L : Addr} {N : List (Str × Option Addr)} {l : List (Option Value)} {σ : Own} {φ : Frz} {s₀ s : Shared}
theorem push_spec (hB : Base w B) (R : Rm A 2) (S : St B L N l σ φ s₀ s)
  (a : Addr) (vs : List Value) (x0 : Value) (lt : Value → Value → Bool) (hv : σ a = some (IsL vs)) (hsz : vs.length < 1000000 - 1)
  (hc : ∀ P, ∀ v ∈ vs ++ [x0], ∀ u ∈ vs ++ [x0], CmpOk w (upd σ a P) v u (lt v u)) (Q : Value → Shared → Prop) (E)
  (k : ∀ s', St B L N l (upd σ a (IsL (sd lt x0 0 (vs ++ [x0]) vs.length))) φ s₀ s' → Q .none s') :
  wpAny (model PR w) A (call (.ref 28) [.ref a, x0]) Q E s := by
  refine call_st [(nm "heap", false), (nm "item", false)] [some (.ref a), some x0] [(nm "_siftdown", .ref 49), (nm "len", .builtin "len")] (fun v σ' => v = .none ∧ σ' = upd σ a (IsL (sd lt x0 0 (vs ++ [x0]) vs.length)))
    S (by have := R.depth; omega) hB.lim (hB.globs rfl) (hB.X _ _ rfl) rfl (codeRec_of hB.X rfl) rfl rfl rfl rfl rfl (cells_loc rfl) (no_cells rfl) (by decide) rfl (by walk_at "init") ?_ ?_
  · intro env A' L' κ φ' s' _ e eG dA S'
    have R' := R.deeper dA
    dsimp only [List.map] at S' e ⊢
    dsimp only [cond] at S' e ⊢
    walk_at "m"
    refine method_l S' hv PySem.F.slot_list_append PySem.F.type_list_append ?_
    walk_at "m"
    refine append_l S' hv (by rw [sizeLine_eq]; omega) fun s S => ?_
    refine ⟨rfl, ?_⟩
    walk_at "m"
    refine len_l S upd_self (by simp; omega) fun t s S => ?_
    walk_at "m"
    have e1 : ((vs ++ [x0]).length : Int) - 1 = (vs.length : Nat) := by simp
    rw [e1]
    refine sd_spec hB R' S a (vs ++ [x0]) 0 vs.length _ _ x0 lt upd_self (by simp) (by simp; (clear e1; omega)) (fun P v hv u hu => ?_) _ _ fun s S => ?_
    · rw [upd_upd]; exact hc P v hv u hu
    · rw [upd_upd] at S
      refine ⟨rfl, ?_⟩
      walk_at "m"
      exact ⟨_, _, S, rfl, rfl⟩
  · rintro v σ' s'' ⟨rfl, rfl⟩ S''; exact k _ S''

/-- what a pop hands out, and what stays -/
noncomputable def popV {α : Type} (xs : List α) (y : α) : α := match xs with | [] => y | x :: _ => x
noncomputable def popL {α : Type} (lt : α → α → Bool) (xs : List α) (y : α) : List α := match xs with | [] => [] | _ :: r => su lt y (y :: r) 0
theorem pop_spec (hB : Base w B) (R : Rm A 3) (S : St B L N l σ φ s₀ s)
  (a : Addr) (vs : List Value) (y : Value) (lt : Value → Value → Bool) (hv : σ a = some (IsL (vs ++ [y]))) (hsz : vs.length < 1000000)
  (hc : ∀ P, ∀ v ∈ vs ++ [y], ∀ u ∈ vs ++ [y], CmpOk w (upd σ a P) v u (lt v u)) (Q : Value → Shared → Prop) (E)
  (k : ∀ s', St B L N l (upd σ a (IsL (popL lt vs y))) φ s₀ s' → Q (popV vs y) s') :
  wpAny (model PR w) A (call (.ref 35) [.ref a]) Q E s := by
  refine call_st [(nm "heap", false), (nm "lastelt", false), (nm "returnitem", false)] [some (.ref a), none, none] [(nm "_siftup", .ref 56)] (fun v σ' => v = popV vs y ∧ σ' = upd σ a (IsL (popL lt vs y)))
    S (by have := R.depth; omega) hB.lim (hB.globs rfl) (hB.X _ _ rfl) rfl (codeRec_of hB.X rfl) rfl rfl rfl rfl rfl (cells_loc rfl) (no_cells rfl) (by decide) rfl (by walk_at "init") ?_ ?_
  · intro env A' L' κ φ' s' _ e eG dA S'
    have R' := R.deeper dA
    dsimp only [List.map] at S' e ⊢
    dsimp only [cond] at S' e ⊢
    walk_at "m"
    refine method_l S' hv PySem.F.slot_list_pop PySem.F.type_list_pop ?_
    walk_at "m"
    refine pop_l S' hv (by rw [sizeLine_eq]; omega) fun s S => ?_
    walk_at "m"
    refine wpAny_If ?_
    refine isTrue_plain ?_ (by with_unfolding_all rfl)
    walk_at "m"
    refine truth_l S upd_self (by omega) fun s S => ?_
    cases vs with
    | nil =>
      simp only [List.isEmpty_nil, Bool.not_true, Bool.false_eq_true, if_false]
      walk_at "m"
      exact ⟨_, _, S, rfl, rfl⟩
    | cons x r =>
      simp only [List.isEmpty_cons, Bool.not_false, if_true]
      walk_at "m"
      refine item_n (k := 0) S upd_self hsz rfl ?_
      walk_at "m"
      refine set_n (k := 0) S upd_self hsz (by simp) fun s S => ?_
      rw [upd_upd] at S
      walk_at "m"
      refine su_spec hB R' S a (y :: r) 0 _ y lt upd_self rfl hsz (fun P v hv u hu => ?_) _ _ fun s S => ?_
      · rw [upd_upd]
        refine hc P v ?_ u ?_
        · rcases List.mem_cons.mp hv with h | h <;> simp [h]
        · rcases List.mem_cons.mp hu with h | h <;> simp [h]
      · rw [upd_upd] at S
        refine ⟨rfl, ?_⟩
        walk_at "m"
        exact ⟨_, _, S, rfl, rfl⟩
  · rintro v σ' s'' ⟨rfl, rfl⟩ S''; exact k _ S''
end
end
section
open PySem PySem.W PyProof.Rows
theorem sd_length {α : Type} (lt : α → α → Bool) (x : α) (st : Nat) (xs : List α) (p : Nat) : (sd lt x st xs p).length = xs.length := by
  induction p using Nat.strongRecOn generalizing xs with
  | ind p ih =>
    rw [sd]
    split
    · split
      · rw [ih _ (by omega)]; simp
      · simp
    · simp
theorem mem_sd {α : Type} {lt : α → α → Bool} {x : α} {st : Nat} {xs : List α} {p : Nat} {v : α} (h : v ∈ sd lt x st xs p) : v = x ∨ v ∈ xs := by
  induction p using Nat.strongRecOn generalizing xs with
  | ind p ih =>
    rw [sd] at h
    split at h
    · rename_i hlt
      split at h
      · rcases ih _ (by omega) h with h | h
        · exact .inl h
        · rcases List.mem_or_eq_of_mem_set h with h | h
          · exact .inr h
          · rw [List.getD_eq_getElem?_getD] at h
            cases q : xs[(p - 1) / 2]? with
            | none => rw [q] at h; exact .inl h
            | some y => rw [q] at h; rw [h]; exact .inr (List.mem_of_getElem? q)
      · rcases List.mem_or_eq_of_mem_set h with h | h
        · exact .inr h
        · exact .inl h
    · rcases List.mem_or_eq_of_mem_set h with h | h
      · exact .inr h
      · exact .inl h
theorem suL_spec {α : Type} (lt : α → α → Bool) (xs : List α) (p : Nat) : (suL lt xs p).1.length = xs.length ∧ ∀ v ∈ (suL lt xs p).1, v ∈ xs := by
  generalize hm : xs.length - p = m
  induction m using Nat.strongRecOn generalizing xs p with
  | ind m ih =>
    by_cases h : 2 * p + 1 < xs.length
    · have hC := suC_lt (lt := lt) h
      have hq := List.getElem?_eq_getElem hC.1
      rw [suL_go h rfl hq]
      obtain ⟨h1, h2⟩ := ih (xs.length - suC lt xs p) (by (clear h; omega)) (xs.set p xs[suC lt xs p]) (suC lt xs p) (by simp)
      refine ⟨by rw [h1]; simp, fun v hv => ?_⟩
      rcases List.mem_or_eq_of_mem_set (h2 v hv) with h | h
      · exact h
      · rw [h]; exact List.getElem_mem hC.1
    · rw [suL_end h]; exact ⟨rfl, fun _ h => h⟩
theorem su_length {α : Type} (lt : α → α → Bool) (x : α) (xs : List α) (p : Nat) : (su lt x xs p).length = xs.length := by
  unfold su; rw [sd_length]; simp [(suL_spec lt xs p).1]
theorem mem_su {α : Type} {lt : α → α → Bool} {x : α} {xs : List α} {p : Nat} {v : α} (h : v ∈ su lt x xs p) : v = x ∨ v ∈ xs := by
  unfold su at h
  rcases mem_sd h with h | h
  · exact .inl h
  · rcases List.mem_or_eq_of_mem_set h with h | h
    · exact .inr ((suL_spec lt xs p).2 v h)
    · exact .inl h
/-- from the last inner place to the root -/
noncomputable def hify {α : Type} (lt : α → α → Bool) : Nat → List α → List α
  | 0, xs => xs
  | k + 1, xs => match xs[k]? with
    | some x => hify lt k (su lt x xs k)
    | none => xs
section
variable {w : World} {B : Heap} {A : Around} {L : Addr} {N : List (Str × Option Addr)} {l : List (Option Value)} {σ : Own} {φ : Frz} {s₀ s : Shared}
inductive HyJ (σ : Own) (a : Addr) (vs : List Value) (te : Tok) (lt : Value → Value → Bool) (i : Nat) (l' : List (Option Value)) (σ' : Own) : Prop
  | mk (xs : List Value) (l3 : Option Value) (h1 : l' = [some (.ref a), some (.int vs.length te), l3]) (h2 : σ' = upd σ a (IsL xs)) (h3 : xs.length = vs.length) (h4 : (∀ v ∈ xs, v ∈ vs)) (h5 : hify lt (vs.length / 2 - i) xs = hify lt (vs.length / 2) vs) : HyJ σ a vs te lt i l' σ'
theorem heapify_spec (hB : Base w B) (R : Rm A 3) (S : St B L N l σ φ s₀ s)
  (a : Addr) (vs : List Value) (lt : Value → Value → Bool) (hv : σ a = some (IsL vs)) (hsz : vs.length < 1000000)
  (hc : ∀ P, ∀ v ∈ vs, ∀ u ∈ vs, CmpOk w (upd σ a P) v u (lt v u)) (Q : Value → Shared → Prop) (E)
  (k : ∀ s', St B L N l (upd σ a (IsL (hify lt (vs.length / 2) vs))) φ s₀ s' → Q .none s') :
  wpAny (model PR w) A (call (.ref 42) [.ref a]) Q E s := by
  refine call_st [(nm "x", false), (nm "n", false), (nm "i", false)] [some (.ref a), none, none] [(nm "len", .builtin "len"), (nm "reversed", .type "reversed"), (nm "range", .type "range"), (nm "_siftup", .ref 56)] (fun v σ' => ∀ s, St B L N l σ' φ s₀ s → Q v s)
    S (by have := R.depth; omega) hB.lim (hB.globs rfl) (hB.X _ _ rfl) rfl (codeRec_of hB.X rfl) rfl rfl rfl rfl rfl (cells_loc rfl) (no_cells rfl) (by decide) rfl (by walk_at "init") ?_ ?_
  · intro env A' L' κ φ' s' _ e eG dA S'
    have R' := R.deeper dA
    dsimp only [List.map] at S' e ⊢
    dsimp only [cond] at S' e ⊢
    walk_at "m"
    refine len_l S' hv (by omega) fun te s S => ?_
    walk_at "m"
    replace S := S.say (P' := IsL vs) hv (fun _ _ h => h)
    refine for_j (vs.length / 2) (fun i v => ∃ t, v = .int (((vs.length / 2 : Nat) : Int) - 1 - i) t) needN (HyJ σ a vs te lt) S ?_ (fun _ _ _ _ => trivial) ?_ ?_ (by with_unfolding_all (intro _; rfl))
    · walk_at "m"
      refine fdiv_v S (by decide) (by decide) fun t s S => ?_
      walk_at "m"
      have e1 : (vs.length : Int).fdiv 2 = ((vs.length / 2 : Nat) : Int) := by rw [Int.fdiv_eq_ediv_of_nonneg _ (by decide)]; omega
      rw [e1]
      refine range_1 S fun r s hr S => ?_
      walk_at "m"
      refine rev_range R'.handled S hr (by omega) fun I s P hI it S => ?_
      walk_at "m"
      exact iter_self S hI it trivial fun rd => ⟨_, _, rd, vs, none, rfl, rfl, rfl, fun _ h => h, rfl⟩
    · rintro i v l' σ' φ'' s hi ⟨t, rfl⟩ ⟨xs, l3, rfl, rfl, hlen, hmem, hh⟩ S
      walk_at "m"
      obtain ⟨j, hj⟩ : ∃ j, vs.length / 2 - i = j + 1 := ⟨vs.length / 2 - i - 1, by omega⟩
      have e1 : ((vs.length / 2 : Nat) : Int) - 1 - i = (j : Nat) := by (clear hi hlen hsz; omega)
      have hjl : j < xs.length := by (clear hj; omega)
      have hjx := List.getElem?_eq_getElem hjl
      rw [e1]
      rw [hj, hify, hjx] at hh
      refine su_spec hB R' S a xs j _ xs[j] lt upd_self hjx (by (clear e1 hj hi; omega)) (fun P v hv u hu => ?_) _ _ fun s S => ?_
      · rw [upd_upd]; exact hc P v (hmem _ hv) u (hmem _ hu)
      · rw [upd_upd] at S
        refine ⟨rfl, ?_⟩
        walk_at "m"
        refine ⟨_, _, ⟨_, _, rfl, rfl, by rw [su_length]; exact hlen, fun v hv => ?_, ?_⟩, S⟩
        · rcases mem_su hv with h | h
          · rw [h]; exact hmem _ (List.getElem_mem hjl)
          · exact hmem _ h
        · rw [show vs.length / 2 - (i + 1) = j by (clear hi hj hlen hsz; omega)]; exact hh
    · rintro l' σ' s ⟨xs, l3, rfl, rfl, hlen, hmem, hh⟩ S
      walk_at "m"
      rw [Nat.sub_self] at hh
      exact ⟨_, _, S, fun s S => k s (by rw [← hh]; exact S)⟩
  · intro v σ' s'' h S''; exact h s'' S''
end
end
section
open PySem PySem.W PyProof.Rows
/-- more is known -/
def Ext (σ σ' : Own) : Prop := ∀ a P, σ a = some P → σ' a = some P
theorem Ext.rfl {σ : Own} : Ext σ σ := fun _ _ h => h
theorem Ext.trans {σ σ' σ'' : Own} (h : Ext σ σ') (h' : Ext σ' σ'') : Ext σ σ'' := fun a P e => h' a P (h a P e)
theorem Ext.upd {σ σ' : Own} {a : Addr} {P : Obj → Prop} (h : Ext σ σ') (ha : σ a = none) : Ext σ (Mine.upd σ' a P) := fun b Q e => by
  rw [upd_ne ((by first | exact ne_sn e ha | exact ne_ns e ha | exact ne_sn ha e | exact ne_ns ha e))]; exact h b Q e
theorem Ext.none {σ σ' : Own} {a : Addr} (h : Ext σ σ') (ha : σ' a = none) : σ a = none := by
  cases q : σ a with
  | none => rfl
  | some P => rw [h a P q] at ha; cases ha

noncomputable def rowV (n : Nat) (f : Nat → Bool) : List Value := (List.range n).map fun j => .bool (f j)
theorem rowV_get {n : Nat} {f : Nat → Bool} {j : Nat} (h : j < n) : (rowV n f)[j]? = some (.bool (f j)) := by unfold rowV; simp [h]
theorem rowV_set {n : Nat} {f : Nat → Bool} {j : Nat} {b : Bool} : (rowV n f).set j (.bool b) = rowV n (fun i => if i = j then b else f i) := by
  unfold rowV
  apply List.ext_getElem?
  intro i
  by_cases h : i < n
  · by_cases e : j = i
    · subst e; simp [h]
    · have e' : ¬ i = j := fun q => e q.symm
      simp [List.getElem?_set, e, e', h]
  · simp [List.getElem?_set, h]
theorem rowV_length {n : Nat} {f : Nat → Bool} : (rowV n f).length = n := by simp [rowV]
/-- a table of ties -/
structure Mat (σ : Own) (a : Addr) (rows : List Addr) (n : Nat) (T : Nat → Nat → Bool) : Prop where
  top : σ a = some (IsL (rows.map Value.ref))
  len : rows.length = n
  nodup : rows.Nodup
  row : ∀ i r, rows[i]? = some r → σ r = some (IsL (rowV n (T i)))
  off : a ∉ rows
theorem Mat.ext {σ σ' : Own} {a : Addr} {rows : List Addr} {n : Nat} {T : Nat → Nat → Bool} (m : Mat σ a rows n T) (h : Ext σ σ') : Mat σ' a rows n T := ⟨h _ _ m.top, m.len, m.nodup, fun i r e => h _ _ (m.row i r e), m.off⟩
theorem Mat.congr {σ : Own} {a : Addr} {rows : List Addr} {n : Nat} {T T' : Nat → Nat → Bool} (m : Mat σ a rows n T) (h : ∀ i j, i < n → j < n → T i j = T' i j) : Mat σ a rows n T' := by
  refine { m with row := fun i r e => ?_ }
  have hi : i < n := by rw [← m.len]; exact (List.getElem?_eq_some_iff.mp e).1
  have : rowV n (T i) = rowV n (T' i) := by
    unfold rowV; apply List.map_congr_left; intro j hj; rw [h i j hi (List.mem_range.mp hj)]
  rw [← this]; exact m.row i r e
theorem Mat.set {σ : Own} {a : Addr} {rows : List Addr} {n : Nat} {T : Nat → Nat → Bool} {i j : Nat} {r : Addr} {b : Bool} (m : Mat σ a rows n T) (hr : rows[i]? = some r) :
    Mat (upd σ r (IsL ((rowV n (T i)).set j (.bool b)))) a rows n (fun i' j' => if i' = i ∧ j' = j then b else T i' j') := by
  have hra : a ≠ r := fun e => m.off (e ▸ List.mem_of_getElem? hr)
  refine ⟨by rw [upd_ne hra]; exact m.top, m.len, m.nodup, fun i' r' e => ?_, m.off⟩
  by_cases h : i' = i
  · subst h
    rw [hr] at e; cases e
    rw [upd_self, rowV_set]
    simp
  · have hne : r' ≠ r := fun c => by
      subst c
      obtain ⟨h1, h2⟩ := List.getElem?_eq_some_iff.mp e
      obtain ⟨h3, h4⟩ := List.getElem?_eq_some_iff.mp hr
      exact h ((List.getElem_inj m.nodup).mp (h2.trans h4.symm))
    rw [upd_ne hne]
    simpa [h] using m.row i' r' e
/-- the ints of a list -/
def IsI (ns : List Int) (o : Obj) : Prop := ∃ vs, IsL vs o ∧ vs.length = ns.length ∧ ∀ (i : Nat) (k : Int), ns[i]? = some k → ∃ t : Tok, vs[i]? = some (Value.int k t)
def Ints (vs : List Value) (ns : List Int) : Prop := vs.length = ns.length ∧ ∀ (i : Nat) (k : Int), ns[i]? = some k → ∃ t : Tok, vs[i]? = some (Value.int k t)
theorem Ints.at {vs : List Value} {ns : List Int} (h : Ints vs ns) {i : Nat} {v : Value} (hv : vs[i]? = some v) : ∃ (k : Int) (t : Tok), ns[i]? = some k ∧ v = Value.int k t := by
  have hl := (List.getElem?_eq_some_iff.mp hv).1
  have hn : i < ns.length := h.1 ▸ hl
  obtain ⟨t, ht⟩ := h.2 i ns[i] (List.getElem?_eq_getElem hn)
  rw [hv] at ht; cases ht
  exact ⟨_, t, List.getElem?_eq_getElem hn, rfl⟩
theorem Ints.nil : Ints [] [] := ⟨rfl, fun i k h => by simp at h⟩
theorem Ints.snoc {vs : List Value} {ns : List Int} (h : Ints vs ns) (k : Int) (t : Tok) : Ints (vs ++ [.int k t]) (ns ++ [k]) := by
  refine ⟨by simp [h.1], fun i k' e => ?_⟩
  by_cases hi : i < ns.length
  · rw [List.getElem?_append_left hi] at e
    obtain ⟨t', ht⟩ := h.2 i k' e
    exact ⟨t', by rw [List.getElem?_append_left (h.1 ▸ hi)]; exact ht⟩
  · rw [List.getElem?_append_right (by omega)] at e
    have : i - ns.length = 0 := by
      cases q : i - ns.length with
      | zero => rfl
      | succ m => rw [q] at e; simp at e
    rw [this] at e; simp at e; subst e
    exact ⟨t, by have := h.1; rw [List.getElem?_append_right (by omega), h.1, ‹i - ns.length = 0›]; simp⟩


section
variable {B : Heap} {L : Addr} {N : List (Str × Option Addr)} {l : List (Option Value)} {σ : Own} {φ : Frz} {s₀ s : Shared} {env : Env}
noncomputable def compChk (scope : Scope) (xs Fv G : List Str) : Bool :=
  (scope.kind == .function) && scope.names.all (fun x => (x.2 != .cell) && (x.2 != .local || scope.names.lookup x.1 == some .local) && (x.2 != .free || Fv.contains x.1)) && decide xs.Nodup &&
  xs.all (fun x => (scope.names.lookup x == some .local) && !(x == ("__debug__" : Str))) && G.all (fun x => (scope.names.lookup x == some .globalImplicit) && !(x == ("__debug__" : Str))) &&
  Fv.all (fun x => (scope.names.lookup x == some .free) && !(x == ("__debug__" : Str)) && !(x == ("__classdict__" : Str)))
theorem compOk_of {Fo Fv G Go : List (Str × Value)} {scope : Scope} {xs : List Str} (hc : compChk scope xs (Fv.map (·.1)) (G.map (·.1)) = true) (eG : EnvG B env Go) (hG : ∀ p ∈ G, GlobIs B p.1 p.2)
    (hF : ∀ p ∈ Fv, (∃ k, k ≠ none ∧ GetV N l p.1 k p.2) ∨ p ∈ Fo) : CompOk B env N l Fo scope xs Fv G := by
  unfold compChk at hc
  simp only [Bool.and_eq_true] at hc
  obtain ⟨⟨⟨⟨⟨h1, h2⟩, h3⟩, h4⟩, h5⟩, h6⟩ := hc
  have h2' := List.all_eq_true.mp h2
  have h4' := List.all_eq_true.mp h4
  have h5' := List.all_eq_true.mp h5
  have h6' := List.all_eq_true.mp h6
  refine { free := fun x hx => ?_, names := fun x hx e => ?_, nocell := fun y hy e => ?_, kind := beq_iff_eq.mp h1, nodup := of_decide_eq_true h3, loc := fun x hx => ?_, glob := fun p hp => ?_, frees := fun p hp => ?_, mg := eG.globals, mb := eG.builtins }
  · have := h2' _ hx
    simp at this
    obtain ⟨v, hv⟩ := this
    rcases hF _ hv with ⟨k, hk, g⟩ | g
    · exact .inl ⟨k, v, hk, g⟩
    · exact .inr ⟨v, g⟩
  · have := h2' _ hx
    simp at this
    rcases this.1.2 with c | c
    · exact absurd e c
    · exact c
  · have := h2' _ hy
    simp at this
    exact this.1.1 e
  · have := h4' _ hx
    simp at this
    exact ⟨this.1, by simpa using this.2⟩
  · have := h5' p.1 (List.mem_map.mpr ⟨p, hp, rfl⟩)
    simp at this
    exact ⟨this.1, by simpa using this.2, hG p hp⟩
  · have := h6' p.1 (List.mem_map.mpr ⟨p, hp, rfl⟩)
    simp at this
    exact ⟨this.1.1, by simpa using this.1.2, by simpa using this.2, hF p hp⟩
theorem envF_nil {env : Env} {L : Addr} {N : List (Str × Option Addr)} {φ : Frz} (e : EnvOk env L N) : EnvF env φ [] := ⟨e.kind, fun _ h => nomatch h⟩
end
end
section
open PySem PySem.W PyProof.Rows
abbrev zi (ps : List Nat) : List Int := ps.map (fun p : Nat => (p : Int))
theorem mem_zi {ps : List Nat} {p : Nat} : (p : Int) ∈ zi ps ↔ p ∈ ps := by
  simp only [zi, List.mem_map]
  exact ⟨fun ⟨a, h, e⟩ => (Int.ofNat_inj.mp e) ▸ h, fun h => ⟨p, h, rfl⟩⟩
theorem Ints.any {vs : List Value} {ns : List Int} (h : Ints vs ns) (k : Int) : vs.any (isInt k) = decide (k ∈ ns) := by
  rw [Bool.eq_iff_iff]
  simp only [List.any_eq_true, decide_eq_true_eq]
  constructor
  · rintro ⟨v, hv, e⟩
    obtain ⟨i, hi⟩ := List.getElem?_of_mem hv
    obtain ⟨k', t, hk, rfl⟩ := h.at hi
    have : k' = k := by simpa [isInt] using e
    subst this
    exact List.mem_of_getElem? hk
  · intro hk
    obtain ⟨i, hi⟩ := List.getElem?_of_mem hk
    obtain ⟨t, ht⟩ := h.2 i k hi
    exact ⟨_, List.mem_of_getElem? ht, by simp [isInt]⟩
theorem Ints.eqGives {vs : List Value} {ns : List Int} (h : Ints vs ns) (k : Int) (t : Tok) : ∀ y, y ∈ vs.toArray → MeetsSeq.EqGives y (.int k t) (isInt k y) := fun y hy => by
  have hy' : y ∈ vs := by simpa using hy
  obtain ⟨i, hi⟩ := List.getElem?_of_mem hy'
  obtain ⟨k', t', _, rfl⟩ := h.at hi
  exact MeetsSeq.EqGives.int k' k t' t
theorem Ints.get {vs : List Value} {ns : List Int} (h : Ints vs ns) {i : Nat} {k : Int} (hk : ns[i]? = some k) : ∃ t : Tok, vs[i]? = some (.int k t) := h.2 i k hk
theorem Ints.mem {vs : List Value} {ns : List Int} (h : Ints vs ns) {v : Value} (hv : v ∈ vs) : ∃ (k : Int) (t : Tok), k ∈ ns ∧ v = .int k t := by
  obtain ⟨i, hi⟩ := List.getElem?_of_mem hv
  obtain ⟨k, t, h1, h2⟩ := h.at hi
  exact ⟨k, t, List.mem_of_getElem? h1, h2⟩
theorem Ints.append {vs us : List Value} {ns ms : List Int} (h : Ints vs ns) (h' : Ints us ms) : Ints (vs ++ us) (ns ++ ms) := by
  refine ⟨by simp [h.1, h'.1], fun i k e => ?_⟩
  have hl := h.1
  by_cases hi : i < ns.length
  · rw [List.getElem?_append_left hi] at e
    obtain ⟨t', ht⟩ := h.2 i k e
    exact ⟨t', by rw [List.getElem?_append_left (by omega)]; exact ht⟩
  · rw [List.getElem?_append_right (by omega)] at e
    obtain ⟨t', ht⟩ := h'.2 _ k e
    exact ⟨t', by rw [List.getElem?_append_right (by omega), hl]; exact ht⟩
theorem nodup_lt {n : Nat} : ∀ {l : List Nat}, l.Nodup → (∀ x ∈ l, x < n) → l.length ≤ n := by
  induction n with
  | zero => intro l _ h; cases l with
    | nil => simp
    | cons x r => exact absurd (h x (.head _)) (Nat.not_lt_zero _)
  | succ n ih =>
    intro l hn h
    by_cases hm : n ∈ l
    · have h1 := List.length_erase_of_mem hm
      have h2 := ih (hn.erase n) (fun x hx => by
        have := (hn.mem_erase_iff).mp hx
        have := h x this.2
        (clear h1; omega))
      omega
    · have := ih hn (fun x hx => by
        have := h x hx
        have : x ≠ n := fun e => hm (e ▸ hx)
        omega)
      omega
section
variable {B : Heap} {L : Addr} {N : List (Str × Option Addr)} {l : List (Option Value)} {σ : Own} {φ : Frz} {s₀ s : Shared}
variable {prog : Program} {w : World} {A : Around} {E : Value → Shared → Prop} {env : Env}
theorem in_i {a : Addr} {vs : List Value} {ns : List Int} {k : Int} {t : Tok} {Q : Value → Shared → Prop} (S : St B L N l σ φ s₀ s) (h : σ a = some (IsL vs)) (hi : Ints vs ns) (hq : Q (.bool (decide (k ∈ ns))) s) :
    wpAny (model prog w) A (compareOp .In (.int k t) (.ref a)) Q E s :=
  SeqInW.in_listW (isInt k) (hi.eqGives k t) (S.list h) (by rw [← Array.any_toList]; simp only; rw [hi.any k]; exact hq)
theorem notin_i {a : Addr} {vs : List Value} {ns : List Int} {k : Int} {t : Tok} {Q : Value → Shared → Prop} (S : St B L N l σ φ s₀ s) (h : σ a = some (IsL vs)) (hi : Ints vs ns) (hq : Q (.bool (!decide (k ∈ ns))) s) :
    wpAny (model prog w) A (compareOp .NotIn (.int k t) (.ref a)) Q E s :=
  SeqInW.notIn_listW (isInt k) (hi.eqGives k t) (S.list h) (by rw [← Array.any_toList]; simp only; rw [hi.any k]; exact hq)
section
variable {a b : Int} {t u : Tok} {Q : Value → Shared → Prop}
theorem iadd_v (S : St B L N l σ φ s₀ s) (h : ∀ t s', St B L N l σ φ s₀ s' → Q (.int (a + b) t) s') : wpAny (model prog w) A (inplaceOp .Add (.int a t) (.int b u)) Q E s := PyProof.Rows.iadd_int (h _ _ (S.toks _))
theorem isub_v (S : St B L N l σ φ s₀ s) (h : ∀ t s', St B L N l σ φ s₀ s' → Q (.int (a - b) t) s') : wpAny (model prog w) A (inplaceOp .Sub (.int a t) (.int b u)) Q E s := PyProof.Rows.isub_int (h _ _ (S.toks _))
end
theorem Itr.imp {I : Addr} {n : Nat} {P P' : Nat → Value → Prop} {At : Nat → Obj → Prop} {need : Own → Prop} (it : Itr prog w A I n P At need) (h : ∀ i v, i < n → P i v → P' i v) : Itr prog w A I n P' At need :=
  ⟨fun i s σ o Q E hi ho ha hn hI hw hQ => it.item i s σ o Q E hi ho ha hn hI hw fun v h' tk hP => hQ v h' tk (h i v hi hP), it.done, it.self⟩
theorem Ready.imp {n : Nat} {P P' : Nat → Value → Prop} {need : Own → Prop} {v : Value} (r : Ready prog w A B L N l σ φ s₀ n P need v s) (h : ∀ i v, i < n → P i v → P' i v) : Ready prog w A B L N l σ φ s₀ n P' need v s :=
  let ⟨I, At, e, it, h1, h2, S⟩ := r.ex
  ⟨I, At, e, it.imp h, h1, h2, S⟩
/-- for i in range(n) -/
theorem iter_n {r : Addr} {n : Nat} {Q : Value → Shared → Prop} (R : A.handled = none) (S : St B L N l (upd σ r (IsRg 0 n 1)) φ s₀ s) (hr : σ r = none) (hn : n < 1000000)
    (hq : ∀ it s', Ready prog w A B L N l σ φ s₀ n (fun i v => ∃ t : Tok, v = .int (i : Nat) t) needN it s' → Q it s') : wpAny (model prog w) A (pyIter (.ref r)) Q E s :=
  iter_range R S hr (by unfold fitsR; omega) (by unfold fitsR; omega) (.inl rfl) (by rw [size_one]; simp) fun it s' rd => hq it s' (rd.imp fun i v _ ⟨t, e⟩ => ⟨t, by rw [e]; congr 1; omega⟩)
/-- for i in range(a, b) -/
theorem iter_ab {r : Addr} {a b : Nat} {Q : Value → Shared → Prop} (R : A.handled = none) (S : St B L N l (upd σ r (IsRg a b 1)) φ s₀ s) (hr : σ r = none) (ha : a < 1000000) (hb : b < 1000000)
    (hq : ∀ it s', Ready prog w A B L N l σ φ s₀ (b - a) (fun i v => ∃ t : Tok, v = .int ((a + i : Nat) : Int) t) needN it s' → Q it s') : wpAny (model prog w) A (pyIter (.ref r)) Q E s :=
  iter_range R S hr (by unfold fitsR; omega) (by unfold fitsR; omega) (.inl rfl) (by rw [size_one]; omega) fun it s' rd => hq it s' (rd.imp fun i v _ ⟨t, e⟩ => ⟨t, by rw [e]; congr 1; omega⟩)
/-- for i in range(a, b, -1), b one below nought or more -/
theorem iter_dn {r : Addr} {a b : Int} {n : Nat} {Q : Value → Shared → Prop} (R : A.handled = none) (S : St B L N l (upd σ r (IsRg a b (-1))) φ s₀ s) (hr : σ r = none) (ha : fitsR a) (hb : fitsR b) (hn : n = (a - b).toNat)
    (hq : ∀ it s', Ready prog w A B L N l σ φ s₀ n (fun i v => ∃ t : Tok, v = .int (a - (i : Nat)) t) needN it s' → Q it s') : wpAny (model prog w) A (pyIter (.ref r)) Q E s :=
  iter_range R S hr ha hb (.inr rfl) (by rw [size_down, hn]) fun it s' rd => hq it s' (rd.imp fun i v _ ⟨t, e⟩ => ⟨t, by rw [e]; congr 1; omega⟩)
end
end
section
open PySem PySem.W PySem.Calls PyProof.Rows PyProof.V PySem.Spec PySem.SeqAt
theorem Ints.are : ∀ {vs : List Value} {ns : List Int}, Ints vs ns → IntsAre vs ns
  | [], [], _ => .nil
  | [], _ :: _, h => by have := h.1; simp at this
  | _ :: _, [], h => by have := h.1; simp at this
  | v :: vs, n :: ns, h => by
    obtain ⟨t, ht⟩ := h.2 0 n rfl
    simp at ht; subst ht
    exact .cons n t (Ints.are ⟨by have := h.1; simpa using this, fun i k e => h.2 (i + 1) k (by simpa using e)⟩)
theorem Ints.of : ∀ {vs : List Value} {ns : List Int}, IntsAre vs ns → Ints vs ns
  | _, _, .nil => Ints.nil
  | _, _, .cons n t h => by
    have ih := Ints.of h
    refine ⟨by simp [ih.1], fun i k e => ?_⟩
    cases i with
    | zero => simp at e; subst e; exact ⟨t, rfl⟩
    | succ i => exact ih.2 i k (by simpa using e)
theorem Ints.drop {vs : List Value} {ns : List Int} (h : Ints vs ns) (k : Nat) : Ints (vs.drop k) (ns.drop k) := Ints.of (h.are.drop k)
theorem Ints.take {vs : List Value} {ns : List Int} (h : Ints vs ns) (k : Nat) : Ints (vs.take k) (ns.take k) := Ints.of (h.are.take k)
/-- a list of lists of ints -/
structure Cols (σ : Own) (a : Addr) (ads : List Addr) (css : List (List Int)) : Prop where
  top : σ a = some (IsL (ads.map Value.ref))
  len : ads.length = css.length
  col : ∀ (i : Nat) (c : Addr) (cs : List Int), ads[i]? = some c → css[i]? = some cs → ∃ vs, σ c = some (IsL vs) ∧ Ints vs cs
theorem Cols.ext {σ σ' : Own} {a : Addr} {ads : List Addr} {css : List (List Int)} (m : Cols σ a ads css) (h : Ext σ σ') : Cols σ' a ads css :=
  ⟨h _ _ m.top, m.len, fun i c cs h1 h2 => let ⟨vs, h3, h4⟩ := m.col i c cs h1 h2; ⟨vs, h _ _ h3, h4⟩⟩
section
variable {B : Heap} {L : Addr} {N : List (Str × Option Addr)} {l : List (Option Value)} {σ : Own} {φ : Frz} {s₀ s : Shared}
variable {prog : Program} {w : World} {A : Around} {E : Value → Shared → Prop} {env : Env}
theorem eq_i {a b : Addr} {vs us : List Value} {ns ms : List Int} {Q : Value → Shared → Prop} (R : Rm A 0) (S : St B L N l σ φ s₀ s) (ha : σ a = some (IsL vs)) (hi : Ints vs ns) (hb : σ b = some (IsL us)) (hj : Ints us ms)
    (hq : Q (.bool (decide (ns = ms))) s) : wpAny (model prog w) A (compareOp .Eq (.ref a) (.ref b)) Q E s :=
  eq_intsK (S.list ha) hi.are (S.list hb) hj.are (by have := R.units; omega) hq
theorem ne_i {a b : Addr} {vs us : List Value} {ns ms : List Int} {Q : Value → Shared → Prop} (R : Rm A 0) (S : St B L N l σ φ s₀ s) (ha : σ a = some (IsL vs)) (hi : Ints vs ns) (hb : σ b = some (IsL us)) (hj : Ints us ms)
    (hq : Q (.bool (!decide (ns = ms))) s) : wpAny (model prog w) A (compareOp .NotEq (.ref a) (.ref b)) Q E s :=
  ne_intsK (S.list ha) hi.are (S.list hb) hj.are (by have := R.units; omega) hq
/-! lists of lists -/
abbrev dat (css : List (List Int)) : List PyData := css.map fun cs => PyData.list (cs.map PyData.int)
theorem canLay_dat : ∀ css : List (List Int), PyData.canLayAll0 (dat css) = true
  | [] => by simp [PyData.canLayAll0]
  | cs :: r => by
    have := canLay_dat r
    simp only [dat, List.map_cons, PyData.canLayAll0, PyData.canLay0, canLayAll0_ints, Bool.true_and]
    exact this
theorem depth_dat : ∀ css : List (List Int), PyData.depthAll (dat css) ≤ 2
  | [] => by simp [PyData.depthAll]
  | cs :: r => by
    have h1 := depth_dat r
    have h2 := W.depthAll_ints cs
    simp only [dat, List.map_cons, PyData.depthAll, PyData.depth] at h1 ⊢
    omega
theorem shaped_dat (css : List (List Int)) : shaped (.list (dat css)) = true := by
  have h1 := depth_dat css
  have h2 : PyData.depth (.list (dat css)) ≤ 64 := by simp only [PyData.depth]; omega
  show (PyData.canLay0 (.list (dat css)) && decide (PyData.depth (.list (dat css)) ≤ 64)) = true
  rw [Bool.and_eq_true]
  exact ⟨by simp only [PyData.canLay0]; exact canLay_dat css, decide_eq_true h2⟩
theorem noMix_dat : ∀ css dss : List (List Int), noMixAll (dat css) (dat dss) = true
  | [], [] => by simp [noMixAll]
  | [], _ :: _ => by simp [noMixAll]
  | _ :: _, [] => by simp [noMixAll]
  | _ :: r, _ :: q => by
    have := noMix_dat r q
    simp only [dat, List.map_cons, noMixAll, noMix, noMix_ints, Bool.true_and]
    exact this
theorem same_dat : ∀ css dss : List (List Int), PySem.Spec.sameAll (dat css) (dat dss) = decide (css = dss)
  | [], [] => by simp [PySem.Spec.sameAll]
  | [], _ :: _ => by simp [PySem.Spec.sameAll]
  | _ :: _, [] => by simp [PySem.Spec.sameAll]
  | n :: r, k :: q => by
    have := same_dat r q
    simp only [dat, List.map_cons, PySem.Spec.sameAll, PySem.Spec.same, same_ints]
    simp only [dat] at this
    rw [this]
    by_cases h : n = k <;> simp [h]
theorem readsAll_cols (S : St B L N l σ φ s₀ s) : ∀ (ads : List Addr) (css : List (List Int)), ads.length = css.length → (∀ (i : Nat) (c : Addr) (cs : List Int), ads[i]? = some c → css[i]? = some cs → ∃ vs, σ c = some (IsL vs) ∧ Ints vs cs) →
    ∃ as, ReadsAll s.heap (ads.map Value.ref) (dat css) as
  | [], [], _, _ => ⟨_, .nil⟩
  | [], _ :: _, h, _ => by simp at h
  | _ :: _, [], h, _ => by simp at h
  | c :: ads, cs :: css, h, hc => by
    obtain ⟨as, ih⟩ := readsAll_cols S ads css (by simpa using h) fun i c cs h1 h2 => hc (i + 1) c cs (by simpa using h1) (by simpa using h2)
    obtain ⟨vs, h1, h2⟩ := hc 0 c cs rfl rfl
    exact ⟨_, .cons (reads_of_ints (S.list h1) h2.are) ih⟩
theorem reads_cols {a : Addr} {ads : List Addr} {css : List (List Int)} (S : St B L N l σ φ s₀ s) (h : Cols σ a ads css) : ∃ as, Reads s.heap (.ref a) (.list (dat css)) as := by
  obtain ⟨as, ra⟩ := readsAll_cols S ads css h.len h.col
  obtain ⟨o, ho, hc, n, hd⟩ := S.list h.top
  exact ⟨_, Reads.list ho hc hd (by simpa using ra)⟩
theorem eq_ii {a b : Addr} {ads bds : List Addr} {css dss : List (List Int)} {Q : Value → Shared → Prop} (R : Rm A 0) (S : St B L N l σ φ s₀ s) (ha : Cols σ a ads css) (hb : Cols σ b bds dss)
    (hq : Q (.bool (decide (css = dss))) s) : wpAny (model prog w) A (compareOp .Eq (.ref a) (.ref b)) Q E s := by
  obtain ⟨as, ra⟩ := reads_cols S ha
  obtain ⟨bs, rb⟩ := reads_cols S hb
  exact eq_dataH_same ra rb (shaped_dat css) (shaped_dat dss) (by have := R.units; omega) (by simp only [noMix]; exact noMix_dat css dss) (by simp only [PySem.Spec.same]; rw [same_dat]; exact hq)
theorem ne_ii {a b : Addr} {ads bds : List Addr} {css dss : List (List Int)} {Q : Value → Shared → Prop} (R : Rm A 0) (S : St B L N l σ φ s₀ s) (ha : Cols σ a ads css) (hb : Cols σ b bds dss)
    (hq : Q (.bool (!decide (css = dss))) s) : wpAny (model prog w) A (compareOp .NotEq (.ref a) (.ref b)) Q E s := by
  obtain ⟨as, ra⟩ := reads_cols S ha
  obtain ⟨bs, rb⟩ := reads_cols S hb
  exact ne_dataH_same ra rb (shaped_dat css) (shaped_dat dss) (by have := R.units; omega) (by simp only [noMix]; exact noMix_dat css dss) (by simp only [PySem.Spec.same]; rw [same_dat]; exact hq)
/-! slices -/
def IsSl (vl vu vk : Value) (o : Obj) : Prop := o.cls = .type "slice" ∧ o.data = .fields #[vl, vu, vk]
theorem slice_v {lo hi : Option Expr} {p : Pos} {st : Option Expr} {Q : Value → Shared → Prop}
    (h : wpAny (model prog w) A (evalPart lo env) (fun l1 s₁ => wpAny (model prog w) A (evalPart hi env) (fun u s₂ => wpAny (model prog w) A (evalPart st env) (fun k s₃ =>
      ∃ L N l σ φ s₀, St B L N l σ φ s₀ s₃ ∧ ∀ a s', σ a = none → St B L N l (upd σ a (IsSl l1 u k)) φ s₀ s' → Q (.ref a) s') E s₂) E s₁) E s) :
    wpAny (model prog w) A (eval (.Slice lo hi st p) env) Q E s :=
  wpAny_Slice (wpAny_mono h (fun l1 s₁ h₁ => wpAny_mono h₁ (fun u s₂ h₂ => wpAny_mono h₂ (fun k s₃ ⟨L, N, l, σ, φ, s₀, S, hq⟩ => hq _ _ S.fresh (S.alloc (P := IsSl l1 u k) rfl ⟨rfl, rfl⟩ s₃.toks)) fun _ _ x => x) fun _ _ x => x) fun _ _ x => x)
theorem cut_l {value slice : Expr} {a sl : Addr} {vs : List Value} {vl vu vk : Value} {lo hi st : Option Int} {Q : Value → Shared → Prop} (S : St B L N l (upd σ sl (IsSl vl vu vk)) φ s₀ s) (hsl : σ sl = none) (ha : σ a = some (IsL vs)) (pl : IsPart vl lo) (pu : IsPart vu hi) (pk : IsPart vk st) (h0 : st ≠ some 0)
    (hz : vs.length ≤ sizeLine) (hq : ∀ b s', σ b = none → St B L N l (upd σ b (IsL (slicePick vs.toArray lo hi st).toList)) φ s₀ s' → Q (.ref b) s')
    {ops : List Value} (hs : subscripted slice false (.ref a) (.ref sl) = operate ops (getItem (.ref a) (.ref sl))) :
    wpAny (model prog w) A (subscriptTail value slice (.ref a) (.ref sl)) Q E s := by
  have hne : a ≠ sl := (by first | exact ne_sn ha hsl | exact ne_ns ha hsl | exact ne_sn hsl ha | exact ne_ns hsl ha)
  have ha' : upd σ sl (IsSl vl vu vk) a = some (IsL vs) := by rw [upd_ne hne]; exact ha
  obtain ⟨o, ho, hc, hd⟩ := S.own sl _ upd_self
  refine tail_any (S.list ha').typeIs slot_list_getitem.lookup (wpAny_getItem_list_slice (S.list ha') ⟨o, ho, hc, hd⟩ pl pu pk h0 ?_ (by simpa using hz)) hs
  have S' := S.forget (σ' := σ) fun a P q => upd_none hsl q
  exact hq _ _ S'.fresh (S'.alloc (P := IsL (slicePick vs.toArray lo hi st).toList) rfl ⟨0, by simp⟩ s.toks)
theorem add_ll {a b : Addr} {vs us : List Value} {Q : Value → Shared → Prop} (S : St B L N l σ φ s₀ s) (ha : σ a = some (IsL vs)) (hb : σ b = some (IsL us)) (hz : vs.length + us.length ≤ sizeLine)
    (hq : ∀ c s', σ c = none → St B L N l (upd σ c (IsL (vs ++ us))) φ s₀ s' → Q (.ref c) s') : wpAny (model prog w) A (binaryOp .Add (.ref a) (.ref b)) Q E s := by
  obtain ⟨m, F, hV⟩ := S.fr
  exact add_lists (hsz := hz) F news_rest (S.list ha) (S.list hb) fun h' F' N' => hq _ _ S.fresh (S.madeN (P := IsL (vs ++ us)) hV F' N' size_none ⟨_, rfl⟩ s.toks)
end
end
section
section
variable {α : Type} {lt : α → α → Bool}
structure SWO (lt : α → α → Bool) : Prop where
  irr : ∀ a, lt a a = false
  asym : ∀ a b, lt a b = true → lt b a = false
  ntr : ∀ a b c, lt b a = false → lt c b = false → lt c a = false

def HeapFrom (lt : α → α → Bool) (st : Nat) (xs : List α) : Prop := ∀ (i : Nat) (a b : α), 0 < i → st ≤ (i - 1) / 2 → xs[(i - 1) / 2]? = some a → xs[i]? = some b → lt b a = false
inductive Desc (st : Nat) : Nat → Prop
  | refl : Desc st st
  | step {p : Nat} : st < p → Desc st ((p - 1) / 2) → Desc st p
theorem Desc.le {st p : Nat} (d : Desc st p) : st ≤ p := by
  induction d with
  | refl => exact Nat.le_refl _
  | step h _ _ => exact Nat.le_of_lt h
theorem Desc.up {st p : Nat} (d : Desc st p) (h : st < p) : Desc st ((p - 1) / 2) := by
  cases d with
  | refl => exact absurd h (Nat.lt_irrefl _)
  | step _ d => exact d
theorem Desc.zero : ∀ p, Desc 0 p := fun p => by
  induction p using Nat.strongRecOn with
  | ind p ih =>
    cases p with
    | zero => exact .refl
    | succ p => exact .step (Nat.succ_pos _) (ih _ (by omega))

theorem sd_heap (hs : SWO lt) {x : α} {st : Nat} : ∀ (pos : Nat) (xs : List α), pos < xs.length → Desc st pos →
    (∀ (i : Nat) (a b : α), 0 < i → i ≠ pos → (i - 1) / 2 ≠ pos → st ≤ (i - 1) / 2 → xs[(i - 1) / 2]? = some a → xs[i]? = some b → lt b a = false) →
    (∀ (i : Nat) (b : α), 0 < i → (i - 1) / 2 = pos → xs[i]? = some b → lt b x = false) →
    (st < pos → ∀ (i : Nat) (a b : α), 0 < i → (i - 1) / 2 = pos → xs[(pos - 1) / 2]? = some a → xs[i]? = some b → lt b a = false) →
    HeapFrom lt st (sd lt x st xs pos) := by
  intro pos
  induction pos using Nat.strongRecOn with
  | ind pos ih =>
    intro xs hlt hd h1 h2 h3
    have fin : (st < pos → ∀ a, xs[(pos - 1) / 2]? = some a → lt x a = false) → HeapFrom lt st (xs.set pos x) := by
      intro hx i a b hi hsti ha hb
      by_cases e1 : i = pos
      · subst e1
        have hne : (i - 1) / 2 ≠ i := by (clear h3 hx; omega)
        rw [List.getElem?_set_ne (Ne.symm hne)] at ha
        rw [List.getElem?_set_self hlt] at hb
        cases hb
        exact hx (by (clear h3 hx hne; omega)) a ha
      · rw [List.getElem?_set_ne (Ne.symm e1)] at hb
        by_cases e2 : (i - 1) / 2 = pos
        · rw [e2, List.getElem?_set_self hlt] at ha; cases ha
          exact h2 i b hi e2 hb
        · rw [List.getElem?_set_ne (Ne.symm e2)] at ha
          exact h1 i a b hi e1 e2 hsti ha hb
    by_cases hgo : st < pos
    · have hq : (pos - 1) / 2 < xs.length := by (clear hgo; omega)
      have hqx := List.getElem?_eq_getElem hq
      have hdq := hd.up hgo
      have hne : (pos - 1) / 2 ≠ pos := by omega
      cases hl : lt x xs[(pos - 1) / 2] with
      | false =>
        rw [sd_end hgo hqx hl]
        exact fin fun _ a ha => by rw [hqx] at ha; cases ha; exact hl
      | true =>
        rw [sd_go hgo hqx hl]
        have set_ne : ∀ {i : Nat}, i ≠ pos → (xs.set pos xs[(pos - 1) / 2])[i]? = xs[i]? := fun h => List.getElem?_set_ne (Ne.symm h)
        have set_eq : (xs.set pos xs[(pos - 1) / 2])[pos]? = some xs[(pos - 1) / 2] := List.getElem?_set_self hlt
        have lex : lt xs[(pos - 1) / 2] x = false := hs.asym _ _ hl
        refine ih _ (by (clear hne; omega)) _ (by simpa using hq) hdq ?_ ?_ ?_
        · intro i a b hi e1 e2 hsti ha hb
          by_cases e3 : i = pos
          · subst e3; exact absurd rfl e2
          · rw [set_ne e3] at hb
            by_cases e4 : (i - 1) / 2 = pos
            · rw [e4, set_eq] at ha; cases ha
              exact h3 hgo i _ b hi e4 hqx hb
            · rw [set_ne e4] at ha
              exact h1 i a b hi e3 e4 hsti ha hb
        · intro i b hi e1 hb
          by_cases e3 : i = pos
          · rw [e3, set_eq] at hb; cases hb; exact lex
          · rw [set_ne e3] at hb
            have := h1 i _ b hi e3 (by rw [e1]; exact hne) (by rw [e1]; exact hdq.le) (by rw [e1]; exact hqx) hb
            exact hs.ntr _ _ _ lex this
        · intro hq2 i a b hi e1 ha hb
          have hp2 : ((pos - 1) / 2 - 1) / 2 ≠ pos := by (clear hne e1 hlt; omega)
          rw [set_ne hp2] at ha
          have h0 : 0 < (pos - 1) / 2 := by (clear e1; omega)
          have base := h1 ((pos - 1) / 2) a _ h0 hne hp2 (hdq.up hq2).le ha hqx
          by_cases e3 : i = pos
          · rw [e3, set_eq] at hb; cases hb; exact base
          · rw [set_ne e3] at hb
            have := h1 i _ b hi e3 (by rw [e1]; exact hne) (by rw [e1]; exact hdq.le) (by rw [e1]; exact hqx) hb
            exact hs.ntr _ _ _ base this
    · rw [sd_stop hgo]
      exact fin fun h => absurd h hgo

theorem sd_perm {x : α} {st : Nat} : ∀ (pos : Nat) (xs : List α), pos < xs.length → (sd lt x st xs pos).Perm (xs.set pos x) := by
  intro pos
  induction pos using Nat.strongRecOn with
  | ind pos ih =>
    intro xs hlt
    by_cases hgo : st < pos
    · have hq : (pos - 1) / 2 < xs.length := by (clear hgo; omega)
      have hqx := List.getElem?_eq_getElem hq
      cases hl : lt x xs[(pos - 1) / 2] with
      | false => rw [sd_end hgo hqx hl]
      | true =>
        rw [sd_go hgo hqx hl]
        refine (ih _ (by omega) _ (by simpa using hq)).trans ?_
        have hne : pos ≠ (pos - 1) / 2 := by omega
        have key := List.set_set_perm (as := xs.set pos x) (i := pos) (j := (pos - 1) / 2) (by simpa using hlt) (by simpa using hq)
        have e1 : (xs.set pos x)[(pos - 1) / 2]'(by simpa using hq) = xs[(pos - 1) / 2] := by rw [List.getElem_set_ne hne]
        have e2 : (xs.set pos x)[pos]'(by simpa using hlt) = x := by simp
        rw [e1, e2, List.set_set] at key
        exact key
    · rw [sd_stop hgo]

theorem suL_perm {x : α} : ∀ (m : Nat) (xs : List α) (pos : Nat), xs.length - pos = m → pos < xs.length → (suL lt xs pos).2 < xs.length ∧ ((suL lt xs pos).1.set (suL lt xs pos).2 x).Perm (xs.set pos x) := by
  intro m
  induction m using Nat.strongRecOn with
  | ind m ih =>
    intro xs pos hm hlt
    by_cases h : 2 * pos + 1 < xs.length
    · have hC := suC_lt (lt := lt) h
      have hq := List.getElem?_eq_getElem hC.1
      rw [suL_go h rfl hq]
      obtain ⟨i1, i2⟩ := ih (xs.length - suC lt xs pos) (by omega) (xs.set pos xs[suC lt xs pos]) (suC lt xs pos) (by simp) (by simpa using hC.1)
      refine ⟨by simpa using i1, i2.trans ?_⟩
      have hne : pos ≠ suC lt xs pos := by (clear i1 hm; omega)
      have key := List.set_set_perm (as := xs.set pos x) (i := pos) (j := suC lt xs pos) (by simpa using hlt) (by simpa using hC.1)
      have e1 : (xs.set pos x)[suC lt xs pos]'(by simpa using hC.1) = xs[suC lt xs pos] := by rw [List.getElem_set_ne hne]
      have e2 : (xs.set pos x)[pos]'(by simpa using hlt) = x := by simp
      rw [e1, e2, List.set_set] at key
      exact key
    · rw [suL_end h]; exact ⟨hlt, .refl _⟩
theorem suC_cases {xs : List α} {pos : Nat} (h : 2 * pos + 1 < xs.length) : (suC lt xs pos = 2 * pos + 1 ∨ suC lt xs pos = 2 * pos + 2) ∧ (suC lt xs pos - 1) / 2 = pos := by
  unfold suC; split <;> (try split) <;> omega
/-- the smaller of two -/
theorem suC_min (hs : SWO lt) {xs : List α} {pos i : Nat} {a b : α} (h : 2 * pos + 1 < xs.length) (hi : (i - 1) / 2 = pos) (h0 : 0 < i) (ha : xs[suC lt xs pos]? = some a) (hb : xs[i]? = some b) : lt b a = false := by
  have hil := (List.getElem?_eq_some_iff.mp hb).1
  unfold suC at ha
  split at ha
  · rename_i h2
    split at ha
    · rename_i hl
      have : i = 2 * pos + 1 ∨ i = 2 * pos + 1 + 1 := by (clear h; omega)
      rcases this with e | e
      · subst e; rw [ha] at hb; cases hb; exact hs.irr _
      · subst e
        obtain ⟨_, e1⟩ := List.getElem?_eq_some_iff.mp ha
        obtain ⟨_, e2⟩ := List.getElem?_eq_some_iff.mp hb
        rw [e1, e2] at hl
        exact hs.asym _ _ hl
    · rename_i hl
      have : i = 2 * pos + 1 ∨ i = 2 * pos + 1 + 1 := by (clear h; omega)
      rcases this with e | e
      · subst e
        obtain ⟨_, e1⟩ := List.getElem?_eq_some_iff.mp ha
        obtain ⟨_, e2⟩ := List.getElem?_eq_some_iff.mp hb
        rw [e1, e2] at hl
        simpa using hl
      · subst e; rw [ha] at hb; cases hb; exact hs.irr _
  · have : i = 2 * pos + 1 := by (clear h; omega)
    subst this; rw [ha] at hb; cases hb; exact hs.irr _

theorem suL_heap (hs : SWO lt) {st : Nat} : ∀ (m : Nat) (xs : List α) (pos : Nat), xs.length - pos = m → pos < xs.length → Desc st pos →
    (∀ (i : Nat) (a b : α), 0 < i → i ≠ pos → (i - 1) / 2 ≠ pos → st ≤ (i - 1) / 2 → xs[(i - 1) / 2]? = some a → xs[i]? = some b → lt b a = false) →
    (st < pos → ∀ (i : Nat) (a b : α), 0 < i → (i - 1) / 2 = pos → xs[(pos - 1) / 2]? = some a → xs[i]? = some b → lt b a = false) →
    (suL lt xs pos).2 < (suL lt xs pos).1.length ∧ Desc st (suL lt xs pos).2 ∧ ¬ 2 * (suL lt xs pos).2 + 1 < (suL lt xs pos).1.length ∧
    (∀ (i : Nat) (a b : α), 0 < i → i ≠ (suL lt xs pos).2 → (i - 1) / 2 ≠ (suL lt xs pos).2 → st ≤ (i - 1) / 2 → (suL lt xs pos).1[(i - 1) / 2]? = some a → (suL lt xs pos).1[i]? = some b → lt b a = false) := by
  intro m
  induction m using Nat.strongRecOn with
  | ind m ih =>
    intro xs pos hm hlt hd h1 h3
    by_cases h : 2 * pos + 1 < xs.length
    · have hC := suC_lt (lt := lt) h
      have hcc := suC_cases (lt := lt) h
      have hq := List.getElem?_eq_getElem hC.1
      rw [suL_go h rfl hq]
      have set_ne : ∀ {i : Nat}, i ≠ pos → (xs.set pos xs[suC lt xs pos])[i]? = xs[i]? := fun h => List.getElem?_set_ne (Ne.symm h)
      have set_eq : (xs.set pos xs[suC lt xs pos])[pos]? = some xs[suC lt xs pos] := List.getElem?_set_self hlt
      have hstp := hd.le
      refine ih (xs.length - suC lt xs pos) (by (clear hlt h3 hcc h; omega)) _ _ (by simp) (by simpa using hC.1) (.step (by (clear hcc hm; omega)) (by rw [hcc.2]; exact hd)) ?_ ?_
      · intro i a b hi e1 e2 hsti ha hb
        by_cases e3 : (i - 1) / 2 = pos
        · rw [e3, set_eq] at ha; cases ha
          have e4 : i ≠ pos := by (clear hcc hsti hstp hm; omega)
          rw [set_ne e4] at hb
          exact suC_min hs h e3 hi hq hb
        · rw [set_ne e3] at ha
          by_cases e4 : i = pos
          · rw [e4, set_eq] at hb; cases hb
            rw [e4] at hi hsti ha
            exact h3 (by (clear hcc hstp e3 e4 hm; omega)) (suC lt xs pos) a _ (by (clear hcc hi e4 hsti h hlt hm; omega)) hcc.2 ha hq
          · rw [set_ne e4] at hb
            exact h1 i a b hi e4 e3 hsti ha hb
      · intro _ i a b hi e1 ha hb
        rw [hcc.2, set_eq] at ha; cases ha
        have e4 : i ≠ pos := by (clear hcc hm; omega)
        rw [set_ne e4] at hb
        exact h1 i _ b hi e4 (by (clear hcc hm; omega)) (by (clear hcc h hlt hm; omega)) (by rw [e1]; exact hq) hb
    · rw [suL_end h]; exact ⟨hlt, hd, h, h1⟩

theorem su_heap (hs : SWO lt) {x : α} {xs : List α} {p : Nat} (hp : p < xs.length)
    (h1 : ∀ (i : Nat) (a b : α), 0 < i → i ≠ p → (i - 1) / 2 ≠ p → p ≤ (i - 1) / 2 → xs[(i - 1) / 2]? = some a → xs[i]? = some b → lt b a = false) : HeapFrom lt p (su lt x xs p) := by
  obtain ⟨k1, k2, k3, k4⟩ := suL_heap hs (st := p) _ xs p rfl hp .refl h1 (fun h => absurd h (Nat.lt_irrefl _))
  unfold su
  have leaf : ∀ {i : Nat} {b : α}, 0 < i → (i - 1) / 2 = (suL lt xs p).2 → ((suL lt xs p).1.set (suL lt xs p).2 x)[i]? = some b → False := fun {i b} hi e hb => by
    have := (List.getElem?_eq_some_iff.mp hb).1
    simp at this
    (clear hp; omega)
  refine sd_heap hs _ _ (by simpa using k1) k2 ?_ (fun i b hi e hb => (leaf hi e hb).elim) (fun _ i a b hi e _ hb => (leaf hi e hb).elim)
  intro i a b hi e1 e2 hst ha hb
  rw [List.getElem?_set_ne (Ne.symm e2)] at ha
  rw [List.getElem?_set_ne (Ne.symm e1)] at hb
  exact k4 i a b hi e1 e2 hst ha hb
theorem su_perm {x : α} {xs : List α} {p : Nat} (hp : p < xs.length) : (su lt x xs p).Perm (xs.set p x) := by
  unfold su
  obtain ⟨h1, h2⟩ := suL_perm (lt := lt) (x := x) _ xs p rfl hp
  have hl := (suL_spec lt xs p).1
  refine (sd_perm _ _ (by rw [List.length_set, hl]; exact h1)).trans ?_
  rw [List.set_set]
  exact h2

theorem hify_spec (hs : SWO lt) : ∀ (k : Nat) (xs : List α), k ≤ xs.length → HeapFrom lt k xs → HeapFrom lt 0 (hify lt k xs) ∧ (hify lt k xs).Perm xs := by
  intro k
  induction k with
  | zero => intro xs _ h; exact ⟨h, .refl _⟩
  | succ k ih =>
    intro xs hk h
    have hkl : k < xs.length := by omega
    rw [hify, List.getElem?_eq_getElem hkl]
    have hh : HeapFrom lt k (su lt xs[k] xs k) := su_heap hs hkl fun i a b hi e1 e2 hst ha hb => h i a b hi (by (clear hi hkl hk; omega)) ha hb
    have hp := su_perm (lt := lt) (x := xs[k]) hkl
    obtain ⟨g1, g2⟩ := ih _ (by rw [su_length]; omega) hh
    refine ⟨g1, g2.trans (hp.trans ?_)⟩
    rw [List.set_getElem_self]
theorem heapify_heap (hs : SWO lt) (xs : List α) : HeapFrom lt 0 (hify lt (xs.length / 2) xs) ∧ (hify lt (xs.length / 2) xs).Perm xs :=
  hify_spec hs _ xs (by omega) fun i a b hi hst ha hb => by
    have := (List.getElem?_eq_some_iff.mp hb).1
    omega
theorem push_heap (hs : SWO lt) {xs : List α} {x : α} (h : HeapFrom lt 0 xs) : HeapFrom lt 0 (sd lt x 0 (xs ++ [x]) xs.length) ∧ (sd lt x 0 (xs ++ [x]) xs.length).Perm (x :: xs) := by
  have noch : ∀ {i : Nat} {b : α}, 0 < i → (i - 1) / 2 = xs.length → (xs ++ [x])[i]? = some b → False := fun {i b} hi e hb => by
    have := (List.getElem?_eq_some_iff.mp hb).1
    simp at this
    omega
  constructor
  · refine sd_heap hs _ _ (by simp) (Desc.zero _) ?_ (fun i b hi e hb => (noch hi e hb).elim) (fun _ i a b hi e _ hb => (noch hi e hb).elim)
    intro i a b hi e1 e2 hst ha hb
    have hil := (List.getElem?_eq_some_iff.mp hb).1
    simp at hil
    rw [List.getElem?_append_left (by omega)] at ha hb
    exact h i a b hi (by omega) ha hb
  · refine (sd_perm _ _ (by simp)).trans ?_
    have : (xs ++ [x]).set xs.length x = xs ++ [x] := by
      apply List.ext_getElem?
      intro i
      by_cases e : xs.length = i
      · subst e; simp
      · rw [List.getElem?_set_ne e]
    rw [this]
    exact List.perm_append_comm.trans (by simp)
theorem heap_min (hs : SWO lt) {xs : List α} (h : HeapFrom lt 0 xs) {a : α} (ha : xs[0]? = some a) : ∀ (i : Nat) (b : α), xs[i]? = some b → lt b a = false := by
  intro i
  induction i using Nat.strongRecOn with
  | ind i ih =>
    intro b hb
    by_cases h0 : i = 0
    · subst h0; rw [ha] at hb; cases hb; exact hs.irr _
    · have hil := (List.getElem?_eq_some_iff.mp hb).1
      have hq : (i - 1) / 2 < xs.length := by omega
      have hqx := List.getElem?_eq_getElem hq
      exact hs.ntr _ _ _ (ih _ (by omega) _ hqx) (h i _ b (by omega) (Nat.zero_le _) hqx hb)
theorem pop_heap (hs : SWO lt) {xs : List α} {y : α} (h : HeapFrom lt 0 (xs ++ [y])) :
    HeapFrom lt 0 (popL lt xs y) ∧ (popV xs y :: popL lt xs y).Perm (xs ++ [y]) ∧ ∀ b ∈ xs ++ [y], lt b (popV xs y) = false := by
  cases xs with
  | nil => exact ⟨fun i a b _ _ _ hb => by simp [popL] at hb, by simp [popV, popL], fun b hb => by simp at hb; subst hb; exact hs.irr _⟩
  | cons x r =>
    refine ⟨?_, ?_, fun b hb => ?_⟩
    · show HeapFrom lt 0 (su lt y (y :: r) 0)
      refine su_heap hs (by simp) fun i a b hi e1 e2 _ ha hb => ?_
      have hil := (List.getElem?_eq_some_iff.mp hb).1
      have conv : ∀ {j : Nat}, j ≠ 0 → j < (y :: r).length → ((x :: r) ++ [y])[j]? = (y :: r)[j]? := fun {j} hj hl => by
        cases j with
        | zero => exact absurd rfl hj
        | succ j => simp at hl; simp [List.getElem?_append_left, hl]
      exact h i a b hi (Nat.zero_le _) (by rw [conv e2 (by omega)]; exact ha) (by rw [conv e1 hil]; exact hb)
    · show (x :: su lt y (y :: r) 0).Perm ((x :: r) ++ [y])
      have := su_perm (lt := lt) (x := y) (xs := y :: r) (p := 0) (by simp)
      simp at this
      exact (List.Perm.cons x this).trans (List.Perm.cons x (List.perm_append_comm (l₁ := [y]) (l₂ := r)))
    · obtain ⟨i, hi⟩ := List.getElem?_of_mem hb
      exact heap_min hs h (by rfl) i b hi
end
end
section
open PySem PySem.W PyProof.Rows
noncomputable def vint : Value → Int
  | .int k _ => k
  | _ => 0
noncomputable def ltV (v u : Value) : Bool := decide (vint v < vint u)
theorem swo_ltV : SWO ltV := ⟨fun a => by simp [ltV], fun a b h => by simp [ltV] at *; omega, fun a b c h1 h2 => by simp [ltV] at *; omega⟩
theorem Ints.vint {vs : List Value} {ns : List Int} (h : Ints vs ns) : vs.map Mine.vint = ns := by
  apply List.ext_getElem?
  intro i
  cases q : ns[i]? with
  | some k => obtain ⟨t, ht⟩ := h.2 i k q; simp [ht, Mine.vint]
  | none =>
    have := List.getElem?_eq_none_iff.mp q
    rw [List.getElem?_eq_none_iff]; simp [h.1]; exact this
theorem Ints.perm {vs vs' : List Value} {hs : List Nat} (h : Ints vs (zi hs)) (p : vs'.Perm vs) : ∃ hs', Ints vs' (zi hs') ∧ hs'.Perm hs := by
  refine ⟨vs'.map fun v => (Mine.vint v).toNat, ⟨by simp, fun i k e => ?_⟩, ?_⟩
  · simp only [zi, List.map_map, List.getElem?_map] at e
    cases q : vs'[i]? with
    | none => rw [q] at e; cases e
    | some v =>
      rw [q] at e
      have hv : v ∈ vs := p.mem_iff.mp (List.mem_of_getElem? q)
      obtain ⟨k', t, hk, rfl⟩ := h.mem hv
      obtain ⟨m, _, rfl⟩ := List.mem_map.mp hk
      simp [Mine.vint] at e
      subst e
      exact ⟨t, rfl⟩
  · have e : vs.map (fun v => (Mine.vint v).toNat) = hs := by
      have := h.vint
      have h2 := congrArg (List.map Int.toNat) this
      simp only [List.map_map, zi] at h2
      have h3 : (Int.toNat ∘ Mine.vint) = fun v => (Mine.vint v).toNat := rfl
      rw [h3] at h2
      rw [h2]
      have h4 : (Int.toNat ∘ fun p : Nat => (p : Int)) = id := by funext x; simp
      rw [h4, List.map_id]
    rw [← e]
    exact p.map _
theorem Ints.cmp {w : World} {vs : List Value} {ns : List Int} (h : Ints vs ns) {σ : Own} : ∀ v ∈ vs, ∀ u ∈ vs, CmpOk w σ v u (ltV v u) := fun v hv u hu => by
  obtain ⟨k, t, _, rfl⟩ := h.mem hv
  obtain ⟨k', t', _, rfl⟩ := h.mem hu
  exact CmpOk.int
section
variable {w : World} {B : Heap} {A : Around} {L : Addr} {N : List (Str × Option Addr)} {l : List (Option Value)} {σ : Own} {φ : Frz} {s₀ s : Shared}
theorem ih_heapify (hB : Base w B) (R : Rm A 3) (S : St B L N l σ φ s₀ s) {a : Addr} {vs : List Value} {hs : List Nat} (hv : σ a = some (IsL vs)) (hi : Ints vs (zi hs)) (hsz : hs.length < 1000000) {Q : Value → Shared → Prop} {E}
  (k : ∀ vs' hs' s', Ints vs' (zi hs') → HeapFrom ltV 0 vs' → hs'.Perm hs → St B L N l (upd σ a (IsL vs')) φ s₀ s' → Q .none s') :
  wpAny (model PR w) A (call (.ref 42) [.ref a]) Q E s := by
  have hl : vs.length = hs.length := by rw [hi.1]; simp
  refine heapify_spec hB R S a vs ltV hv (by omega) (fun P => hi.cmp) Q E fun s' S' => ?_
  obtain ⟨h1, h2⟩ := heapify_heap swo_ltV vs
  obtain ⟨hs', h3, h4⟩ := hi.perm h2
  exact k _ hs' s' h3 h1 h4 S'
theorem ih_push (hB : Base w B) (R : Rm A 2) (S : St B L N l σ φ s₀ s) {a : Addr} {vs : List Value} {hs : List Nat} {j : Nat} {t : Tok} (hv : σ a = some (IsL vs)) (hi : Ints vs (zi hs)) (hh : HeapFrom ltV 0 vs) (hsz : hs.length < 100000) {Q : Value → Shared → Prop} {E}
  (k : ∀ vs' hs' s', Ints vs' (zi hs') → HeapFrom ltV 0 vs' → hs'.Perm (j :: hs) → St B L N l (upd σ a (IsL vs')) φ s₀ s' → Q .none s') :
  wpAny (model PR w) A (call (.ref 28) [.ref a, .int j t]) Q E s := by
  have hl : vs.length = hs.length := by rw [hi.1]; simp
  have hi' : Ints (vs ++ [.int j t]) (zi (hs ++ [j])) := by have := hi.snoc (j : Int) t; simpa [zi] using this
  refine push_spec hB R S a vs _ ltV hv (by omega) (fun P => hi'.cmp) Q E fun s' S' => ?_
  obtain ⟨h1, h2⟩ := push_heap swo_ltV (x := Value.int j t) hh
  obtain ⟨hs', h3, h4⟩ := hi'.perm (h2.trans (List.perm_append_comm (l₁ := [Value.int j t]) (l₂ := vs)))
  exact k _ hs' s' h3 h1 (h4.trans (List.perm_append_comm (l₁ := hs) (l₂ := [j]))) S'
theorem ih_pop (hB : Base w B) (R : Rm A 3) (S : St B L N l σ φ s₀ s) {a : Addr} {vs : List Value} {hs : List Nat} (hv : σ a = some (IsL vs)) (hi : Ints vs (zi hs)) (hh : HeapFrom ltV 0 vs) (hsz : hs.length < 100000) (hne : hs ≠ []) {Q : Value → Shared → Prop} {E}
  (k : ∀ (j : Nat) (t : Tok) vs' hs' s', Ints vs' (zi hs') → HeapFrom ltV 0 vs' → (j :: hs').Perm hs → (∀ x ∈ hs, j ≤ x) → St B L N l (upd σ a (IsL vs')) φ s₀ s' → Q (.int j t) s') :
  wpAny (model PR w) A (call (.ref 35) [.ref a]) Q E s := by
  have hl : vs.length = hs.length := by rw [hi.1]; simp
  have hvne : vs ≠ [] := fun c => hne (by rw [c] at hl; exact List.eq_nil_of_length_eq_zero hl.symm)
  obtain ⟨us, y, rfl⟩ : ∃ us y, vs = us ++ [y] := ⟨vs.dropLast, vs.getLast hvne, (List.dropLast_concat_getLast hvne).symm⟩
  refine pop_spec hB R S a us y ltV hv (by simp at hl; omega) (fun P => hi.cmp) Q E fun s' S' => ?_
  obtain ⟨h1, h2, h3⟩ := pop_heap swo_ltV hh
  have hm : popV us y ∈ us ++ [y] := h2.mem_iff.mp (.head _)
  obtain ⟨kk, t, hkm, hk⟩ := hi.mem hm
  obtain ⟨j, hj, rfl⟩ := List.mem_map.mp hkm
  obtain ⟨hs', h4, h5⟩ := hi.perm h2
  rw [hk] at h4
  cases hs' with
  | nil => have := h4.1; simp at this
  | cons j' hs' =>
    have hjj : j' = j := by
      obtain ⟨t', ht'⟩ := h4.2 0 (j' : Int) rfl
      simp at ht'
      have h1 : (j : Int) = (j' : Int) := ht'.1
      (clear hl hsz; omega)
    subst hjj
    have h6 : Ints (popL ltV us y) (zi hs') := ⟨by have := h4.1; simpa using this, fun i k e => h4.2 (i + 1) k (by simpa using e)⟩
    rw [hk]
    refine k j' t _ hs' s' h6 h1 h5 (fun x hx => ?_) S'
    obtain ⟨i, hi'⟩ := List.getElem?_of_mem hx
    obtain ⟨tx, htx⟩ := hi.2 i (x : Int) (by simp [zi, hi'])
    have := h3 _ (List.mem_of_getElem? htx)
    rw [hk] at this
    simp [ltV, Mine.vint] at this
    (clear hl hsz; omega)
end
end
section
open PySem PySem.W PyProof.Rows
theorem sub_tup_tup : isSubtype (.type "tuple") (.type "tuple") = pure true := by rw [isSubtype_type]; kernel_rfl
section
variable {prog : Program} {w : World} {A : Around} {E : Value → Shared → Prop} {h : Heap} {g : Array GenState} {d : Drawn} {tt : Nat} {os : OsState} {x y : Addr} {a b p q : Int} {t u t' u' : Tok} {n m : Nat}
theorem rich_lt {s : Shared} {Q : Value → Shared → Prop} (hq : Q (.bool (decide (a < b))) s) : wpAny (model prog w) A (richCompare .Lt (.int a t) (.int b u)) Q E s := PyProof.Rows.lt_int (a := a) (b := b) (t := t) (u := u) hq
theorem tup_lt {Q : PySem.Fin → Shared → Prop} (hx : h.get? x = some { cls := .type "tuple", dict := none, data := .seq #[.int a t, .int p u] n, slots := #[] }) (hy : h.get? y = some { cls := .type "tuple", dict := none, data := .seq #[.int b t', .int q u'] m, slots := #[] })
    (hq : Q (.done (.ret (.bool (decide (a < b) || (decide (a = b) && decide (p < q)))))) ⟨h, g, d, tt, os⟩) :
    wpAny (model prog w) A (Builtin.«tuple.__lt__» ⟨[.ref x, .ref y], []⟩) Q E ⟨h, g, d, tt, os⟩ := by
  have hT : (⟨h, g, d, tt, os⟩ : Shared).TypeIs (.ref x) "tuple" := ⟨_, hx, rfl⟩
  have hT2 : (⟨h, g, d, tt, os⟩ : Shared).TypeIs (.ref y) "tuple" := ⟨_, hy, rfl⟩
  have f1 := sub_tup_tup
  repeat (any_goals (first | assumption | (with_reducible refine wpAny_eqBool_int ?_) | wp_step))
  by_cases c : a = b
  · subst c
    rw [if_neg (by simp)]
    repeat (any_goals (first | assumption | (with_reducible refine wpAny_eqBool_int ?_) | wp_step))
    by_cases c2 : p = q
    · subst c2
      rw [if_neg (by simp)]
      have e : (decide (a < a) || (decide (a = a) && decide (p < p))) = false := by simp
      rw [e] at hq
      repeat (any_goals (first | assumption | wp_step))
    · rw [if_pos (by simpa using c2)]
      have e : (decide (a < a) || (decide (a = a) && decide (p < q))) = decide (p < q) := by simp
      rw [e] at hq
      repeat (any_goals (first | assumption | (with_reducible refine rich_lt ?_) | wp_step))
  · rw [if_pos (by simpa using c)]
    have e : (decide (a < b) || (decide (a = b) && decide (p < q))) = decide (a < b) := by simp [c]
    rw [e] at hq
    repeat (any_goals (first | assumption | (with_reducible refine rich_lt ?_) | wp_step))
end
theorem isL_tp {vs us : List Value} (h : some (IsL vs) = some (IsTp us)) : False := by
  have := congrFun (Option.some.inj h) { cls := .type "list", dict := none, data := .seq vs.toArray 0, slots := #[] }
  have h1 : IsL vs { cls := .type "list", dict := none, data := .seq vs.toArray 0, slots := #[] } := ⟨0, rfl⟩
  rw [this] at h1
  obtain ⟨n, e⟩ := h1
  have e2 := congrArg Obj.cls e
  simp at e2
theorem CmpOk.pair {w : World} {σ : Own} {x y : Addr} {a b p q : Int} {t u t' u' : Tok} (hx : σ x = some (IsTp [.int a t, .int p u])) (hy : σ y = some (IsTp [.int b t', .int q u'])) :
    CmpOk w σ (.ref x) (.ref y) (decide (a < b) || (decide (a = b) && decide (p < q))) := by
  intro A B L N l φ s₀ s Q E R S k
  obtain ⟨n, hox⟩ := S.isTp hx
  obtain ⟨m, hoy⟩ := S.isTp hy
  show wpAny _ _ (richCompare .Lt (.ref x) (.ref y)) _ _ _
  have hT : s.TypeIs (.ref x) "tuple" := ⟨_, hox, rfl⟩
  have hT2 : s.TypeIs (.ref y) "tuple" := ⟨_, hoy, rfl⟩
  refine wpAny_richCompare_same_room hT hT2 PySem.F.slot_tuple_lt ?_ (by have := R.units; omega)
  refine wpAny_call_entry PySem.F.slot_tuple_lt hT PySem.F.entry_tuple_lt ?_ (PySem.F.args_tuple_lt_2 _ _)
  exact tup_lt hox hoy ⟨_, rfl, (by simp), k _ S⟩
/-! pairs (key, point) in a heap -/
noncomputable def lexlt (ks : Nat → Int) (p q : Nat) : Bool := decide (ks p < ks q) || (decide (ks p = ks q) && decide ((p : Int) < (q : Int)))
noncomputable def kpt (pt : Addr → Nat) : Value → Nat
  | .ref t => pt t
  | _ => 0
noncomputable def ltP (ks : Nat → Int) (pt : Addr → Nat) (v u : Value) : Bool := lexlt ks (kpt pt v) (kpt pt u)
theorem swo_ltP {ks : Nat → Int} {pt : Addr → Nat} : SWO (ltP ks pt) := by
  refine ⟨fun a => by simp [ltP, lexlt], fun a b h => ?_, fun a b c h1 h2 => ?_⟩
  · simp [ltP, lexlt] at *; omega
  · simp [ltP, lexlt] at *; omega
def PV (σ : Own) (ks : Nat → Int) (pt : Addr → Nat) (v : Value) : Prop := ∃ t u w, v = .ref t ∧ σ t = some (IsTp [.int (ks (pt t)) u, .int (pt t : Nat) w])
theorem PV.cmp {w : World} {σ : Own} {a : Addr} {xs : List Value} {ks : Nat → Int} {pt : Addr → Nat} {vs : List Value} (ha : σ a = some (IsL xs)) (h : ∀ v ∈ vs, PV σ ks pt v) (P : Obj → Prop) : ∀ v ∈ vs, ∀ u ∈ vs, CmpOk w (upd σ a P) v u (ltP ks pt v u) := fun v hv u hu => by
  obtain ⟨t, u1, w1, rfl, e1⟩ := h v hv
  obtain ⟨t', u2, w2, rfl, e2⟩ := h u hu
  have n1 : t ≠ a := fun c => by rw [c, ha] at e1; exact isL_tp e1
  have n2 : t' ≠ a := fun c => by rw [c, ha] at e2; exact isL_tp e2
  exact CmpOk.pair (by rw [upd_ne n1]; exact e1) (by rw [upd_ne n2]; exact e2)
theorem HeapFrom.congr {α : Type} {lt lt' : α → α → Bool} {st : Nat} {xs : List α} (h : HeapFrom lt st xs) (e : ∀ a ∈ xs, ∀ b ∈ xs, lt b a = lt' b a) : HeapFrom lt' st xs := fun i a b h0 h1 h2 h3 => by
  rw [← e a (List.mem_of_getElem? h2) b (List.mem_of_getElem? h3)]; exact h i a b h0 h1 h2 h3
section
variable {w : World} {B : Heap} {A : Around} {L : Addr} {N : List (Str × Option Addr)} {l : List (Option Value)} {σ : Own} {φ : Frz} {s₀ s : Shared} {ks : Nat → Int} {pt : Addr → Nat}
theorem tp_push (hB : Base w B) (R : Rm A 2) (S : St B L N l σ φ s₀ s) {a : Addr} {vs : List Value} {x : Value} (hv : σ a = some (IsL vs)) (hp : ∀ v ∈ vs ++ [x], PV σ ks pt v) (hh : HeapFrom (ltP ks pt) 0 vs) (hsz : vs.length < 100000) {Q : Value → Shared → Prop} {E}
  (k : ∀ vs' s', HeapFrom (ltP ks pt) 0 vs' → vs'.Perm (x :: vs) → St B L N l (upd σ a (IsL vs')) φ s₀ s' → Q .none s') :
  wpAny (model PR w) A (call (.ref 28) [.ref a, x]) Q E s := by
  refine push_spec hB R S a vs x (ltP ks pt) hv (by omega) (fun P => PV.cmp hv hp P) Q E fun s' S' => ?_
  obtain ⟨h1, h2⟩ := push_heap swo_ltP (x := x) hh
  exact k _ s' h1 h2 S'
theorem tp_pop (hB : Base w B) (R : Rm A 3) (S : St B L N l σ φ s₀ s) {a : Addr} {vs : List Value} (hv : σ a = some (IsL vs)) (hp : ∀ v ∈ vs, PV σ ks pt v) (hh : HeapFrom (ltP ks pt) 0 vs) (hsz : vs.length < 100000) (hne : vs ≠ []) {Q : Value → Shared → Prop} {E}
  (k : ∀ x vs' s', HeapFrom (ltP ks pt) 0 vs' → (x :: vs').Perm vs → (∀ v ∈ vs, ltP ks pt v x = false) → St B L N l (upd σ a (IsL vs')) φ s₀ s' → Q x s') :
  wpAny (model PR w) A (call (.ref 35) [.ref a]) Q E s := by
  obtain ⟨us, y, rfl⟩ : ∃ us y, vs = us ++ [y] := ⟨vs.dropLast, vs.getLast hne, (List.dropLast_concat_getLast hne).symm⟩
  refine pop_spec hB R S a us y (ltP ks pt) hv (by simp at hsz; omega) (fun P => PV.cmp hv hp P) Q E fun s' S' => ?_
  obtain ⟨h1, h2, h3⟩ := pop_heap swo_ltP hh
  exact k _ _ s' h1 h2 h3 S'
end
end
section
open PySem PySem.W PyProof.Rows
section
variable {B : Heap} {L : Addr} {N : List (Str × Option Addr)} {l : List (Option Value)} {σ : Own} {φ : Frz} {s₀ s : Shared}
variable {prog : Program} {w : World} {A : Around} {E : Value → Shared → Prop} {env : Env}
abbrev dictO : Obj := { cls := .type "dict", data := .dict #[] }
abbrev cellO : Obj := { cls := .type "cell", data := .cell none }
theorem newEnv1 {M : Model} {scope : Scope} {globals : Addr} {cl : List (Str × Addr)} {qual : Str} {x : Str} {Q : Env → Shared → Prop} (hcf : ∀ n cl, cellsFrom n scope.names cl = (x, n) :: cl) (hpc : ∀ h, pushCells h scope.names = h.push cellO)
    (h : Q (newEnv scope s.heap.objs.size globals ((x, s.heap.objs.size + 1) :: cl) qual none .none (some env) builtinsNs) { s with heap := (s.heap.push dictO).push cellO }) :
    wpAny M A (newFunctionEnv scope globals cl [] qual none .none (some env)) Q E s := by
  simp only [newFunctionEnv, Option.isSome_some, if_true]
  refine wpAny_bind (wpAny_alloc ?_)
  refine wpAny_bind (wpAny_layCells _ (fun name kind cells => by cases hkc : kind == NameKind.cell <;> simp [hkc]) _ _ _ _ ?_)
  rw [hcf, hpc, show ({ s with heap := s.heap.push dictO } : Shared).heap.objs.size = s.heap.objs.size + 1 from Heap.size_push ..]
  rw [List.forIn_nil]
  exact wpAny_bind (wpAny_pure (wpAny_pure h))
/-- what holds while it runs -/
noncomputable def omc (At : Nat → Obj → Prop) (I D C cc : Addr) (σ : Own) (i : Nat) (ys : List Value) : Own := upd (om At I D C σ i ys) cc IsCe
theorem comp_core1 (n : Nat) (P : Nat → Value → Prop) (need : Own → Prop) (J : Nat → List Value → Own → Prop) (x : Str) (Fv Fo G : List (Str × Value)) {elt target iter : Expr} {ifs : List Expr} {scope : Scope} {cl : List (Str × Addr)} {pos : Pos} {it : Value}
    {RR : Value → Addr → Result → Shared → Prop}
    (rd : Ready prog w A B L N l σ φ s₀ n P need it s) (j : J 0 [] σ) (e : EnvOk env L N) (eF : EnvF env φ Fo) (hg : env.globals = mainGlobals) (hb : env.builtins = builtinsNs)
    (hcl : ∀ x c, (x, NameKind.free) ∈ scope.names → env.cells.lookup x = some c → cl.lookup x = some c)
    (hcf : ∀ n cl, cellsFrom n scope.names cl = (x, n) :: cl) (hpc : ∀ h, pushCells h scope.names = h.push { cls := .type "cell", data := .cell none }) (hkind : scope.kind = .function) (hx : scope.names.lookup x = some .cell ∧ (x == ("__debug__" : Str)) = false)
    (hG : ∀ p ∈ G, scope.names.lookup p.1 = some .globalImplicit ∧ (p.1 == ("__debug__" : Str)) = false ∧ GlobIs B p.1 p.2)
    (hF : ∀ p ∈ Fv, scope.names.lookup p.1 = some .free ∧ (p.1 == ("__debug__" : Str)) = false ∧ (p.1 == ("__classdict__" : Str)) = false ∧ ((∃ k, k ≠ none ∧ GetV N l p.1 k p.2) ∨ p ∈ Fo))
    (hneed : ∀ i ys σ, J i ys σ → need σ) (hsz : n ≤ sizeLine) (hlen : ∀ i ys σ, J i ys σ → ys.length ≤ i)
    (turn : ∀ i v ys σ cenv C cc φ' s, i < n → P i v → J i ys σ → EnvOk cenv C [(x, some cc)] → EnvF cenv φ' Fv → EnvG B cenv G → St B C [(x, some cc)] [none] σ φ' s₀ s →
      wpAny (model prog w) A (assign target cenv v) (fun _ s₁ => wpAny (model prog w) A (forIn ifs true fun c r => if r = true then do let ok ← isTrue c cenv (eval c cenv); pure (ForInStep.yield ok) else pure (ForInStep.yield r))
        (fld fun ok s₂ => if ok = true then wpAny (model prog w) A (eval elt cenv) (fld fun y s₃ => ∃ l₃ σ₃, J (i + 1) (ys ++ [y]) σ₃ ∧ St B C [(x, some cc)] l₃ σ₃ φ' s₀ s₃) Nev s₂
          else ∃ l₃ σ₃, J (i + 1) ys σ₃ ∧ St B C [(x, some cc)] l₃ σ₃ φ' s₀ s₂) Nev s₁) Nev s)
    (fin : ∀ D C ys σ s, J n ys σ → σ D = none → σ C = none → D ≠ C → St B L N l (upd (upd σ D (IsL ys)) C IsNs) φ s₀ s → RR (.ref D) C (.ok .next) s)
    (ht : ∀ it v, letOwnedTupleGo target it v = pure ()) :
    wpAny (model prog w) A (newList []) (fun acc s₃ => wpAny (model prog w) A (newFunctionEnv scope env.globals cl [] env.qual none .none (some env)) (fun cenv s₄ =>
      codeAny (model prog w) A (.compStart (.ListComp elt [⟨target, iter, ifs, 0⟩] scope pos) 0 it acc { cenv with scope := relabel scope env }) (RR acc cenv.locals) s₄) E s₃) E s := by
  dsimp only [fld] at turn
  obtain ⟨I, At, rfl, IT, hI, hn, S⟩ := rd
  refine wpAny_newObj_type (newEnv1 hcf hpc ?_)
  dsimp only
  have S₁ := S.alloc (o := { cls := .type "list", dict := none, data := .seq ([] : List Value).toArray }) (P := IsL []) rfl ⟨_, rfl⟩ s.toks
  have hD : upd σ I (At 0) s.heap.objs.size = none := S.fresh
  generalize hH2 : s.heap.push { cls := .type "list", dict := none, data := .seq ([] : List Value).toArray } = H2 at S₁ ⊢
  generalize hDD : s.heap.objs.size = D at hD S₁ ⊢
  have hC := S₁.fresh
  dsimp only at hC
  have S₂ := S₁.made (h' := H2.push dictO) (P := IsNs) (a := H2.objs.size) size_none (fun b o e => Heap.get?_push_of_some _ e) (isNs_of (Heap.Ns.new H2 (.type "dict"))) s.toks
  dsimp only at S₂
  have hcc := S₂.fresh
  have S₃ := S₂.made (h' := (H2.push dictO).push cellO) (P := IsCe) (a := (H2.push dictO).objs.size) size_none (fun b o e => Heap.get?_push_of_some _ e) ⟨_, Heap.get?_push_size _ rfl, none, rfl⟩ s.toks
  dsimp only at S₃ hcc
  have hsz1 : (H2.push dictO).objs.size = H2.objs.size + 1 := Heap.size_push ..
  rw [hsz1] at S₃ hcc
  have hCL := size_le S S₁
  generalize hc0 : H2.objs.size + 1 = cc at hcc S₃ ⊢
  generalize hCC : H2.objs.size = C at hC hcc S₂ S₃ hCL ⊢
  have hID : I ≠ D := ne_sn upd_self hD
  have hσD : σ D = none := (upd_ne (Ne.symm hID)).symm.trans hD
  have hCD : C ≠ D := ne_ns hC upd_self
  have hC' : upd σ I (At 0) C = none := (upd_ne hCD).symm.trans hC
  have hIC : I ≠ C := ne_sn upd_self hC'
  have hσC : σ C = none := (upd_ne (Ne.symm hIC)).symm.trans hC'
  have hccC : cc ≠ C := ne_ns hcc upd_self
  have hcc2 := (upd_ne hccC).symm.trans hcc
  have hccD : cc ≠ D := ne_ns hcc2 upd_self
  have hcc3 := (upd_ne hccD).symm.trans hcc2
  have hccI : cc ≠ I := ne_ns hcc3 upd_self
  have hσc : σ cc = none := (upd_ne hccI).symm.trans hcc3
  have e' : EnvOk (compEnvC scope ((x, cc) :: cl) C env) C [(x, some cc)] := by
    refine { locals := rfl, kind := hkind, loc := fun y hm => ?_, cell := fun y c hm => ?_, dbg := fun p hm => ?_, nodup := .cons (fun _ q => nomatch q) .nil, cnodup := .cons (fun _ q => nomatch q) .nil }
    · cases hm with
      | tail _ h => cases h
    · cases hm with
      | tail _ h => cases h
      | head => exact ⟨lk_of hx.1 (by intro c; cases c), by show List.lookup x ((x, cc) :: cl) = _; rw [List.lookup_cons, beq_self_eq_true]⟩
    · cases hm with
      | tail _ h => cases h
      | head => exact hx.2
  have inz : ∀ a, a ∈ ([(x, some cc)] : List (Str × Option Addr)).filterMap (·.2) → a = cc := fun a q => List.mem_singleton.mp q
  have eG' : EnvG B (compEnvC scope ((x, cc) :: cl) C env) G := { globals := hg, builtins := hb, kind := hkind, glob := fun p hp => ⟨lk_of (hG p hp).1 (by intro c; cases c), (hG p hp).2⟩ }
  refine comp_coreG (O := omc At I D C cc) (N' := [(x, some cc)]) (l0 := [none]) n P need J Fv Fo G ?_ (fun σ₃ i ys l₃ φ' s S4 S6 hex => ?_) (fun h m hh => ?_) IT e eF e' eG' hCL
    (fun p hp => ?_) hneed hsz hlen
    (fun i v ys σ φ' s h1 h2 h3 h4 h5 => turn i v ys σ _ C cc φ' s h1 h2 h3 e' h4 eG' h5)
    (fun ys σ s h1 h2 h3 h4 => fin D C ys σ s h1 h2 h3 (Ne.symm hCD) h4) (fun _ v _ _ _ _ _ _ _ _ q => by rw [ht]; exact wpAny_pure q) j ⟨hI, hσD, hσC, fun a q => by rw [inz a q]; exact hσc⟩ S₃
  · exact ⟨fun _ _ _ => (upd_ne (Ne.symm hccI)).trans (om_I hID hIC), fun _ _ _ => (upd_ne (Ne.symm hccD)).trans (om_D (Ne.symm hCD)), fun _ _ _ => (upd_ne (Ne.symm hccC)).trans om_C, (fun _ _ _ a q => by rw [inz a q]; exact upd_self),
      fun _ _ _ h a P q => (upd_ne (ne_sn q (h.2.2.2 cc (.head _)))).trans (om_of h.1 h.2.1 h.2.2.1 a P q), fun _ _ _ _ => by unfold omc; rw [upd_comm hccI, om_next hID hIC], fun _ _ _ _ => by unfold omc; rw [upd_comm hccD, om_app (Ne.symm hCD)],
      hID, hIC, hCD, (fun a q => by rw [inz a q]; exact ⟨hccI, hccD, hccC⟩)⟩
  · obtain ⟨mC, hmC, hvC⟩ := S4.vars
    obtain ⟨vc4, oc4, hoc4, hd4⟩ := hvC.has_cell (x := x) (c := cc) (.head _)
    obtain ⟨x1, x2, x3, x4⟩ := hex C (.head _)
    obtain ⟨y1, y2, y3, y4⟩ := hex cc (.tail _ (.head _))
    exact (S6.take (isNs_of hmC) x1 x2 x4 x3).take ⟨oc4, hoc4, vc4, hd4⟩ y1 y2 y4 y3
  · obtain ⟨oc', hoc', vc, hdc'⟩ := hh cc (.head _)
    exact .cell ⟨vc, ⟨oc', hoc', hdc'⟩, fun _ q => by cases q⟩ .nil
  · obtain ⟨f1, f2, f3, f4⟩ := hF p hp
    refine ⟨(lk_free f1).imp id fun q => ⟨q, f3⟩, f2, fun c q => ?_, f4⟩
    have hn : (p.1 == x) = false := by
      cases hb : p.1 == x with
      | false => rfl
      | true => rw [beq_iff_eq.mp hb, hx.1] at f1; cases f1
    show List.lookup p.1 ((x, cc) :: cl) = _
    rw [List.lookup_cons, hn]; exact hcl p.1 c (mem_of_lookup f1) q
/-- the names that a comprehension's block takes; its own name is a cell -/
structure CompOk1 (B : Heap) (env : Env) (N : List (Str × Option Addr)) (l : List (Option Value)) (Fo : List (Str × Value)) (scope : Scope) (x : Str) (Fv G : List (Str × Value)) : Prop where
  free : ∀ x, (x, NameKind.free) ∈ scope.names → (∃ k v, k ≠ none ∧ GetV N l x k v) ∨ ∃ v, (x, v) ∈ Fo
  names : ∀ x ∈ scope.names, x.2 = .local → scope.names.lookup x.1 = some .local
  cf : ∀ n cl, cellsFrom n scope.names cl = (x, n) :: cl
  pc : ∀ h, pushCells h scope.names = h.push { cls := .type "cell", data := .cell none }
  kind : scope.kind = .function
  cell : scope.names.lookup x = some .cell ∧ (x == ("__debug__" : Str)) = false
  glob : ∀ p ∈ G, scope.names.lookup p.1 = some .globalImplicit ∧ (p.1 == ("__debug__" : Str)) = false ∧ GlobIs B p.1 p.2
  frees : ∀ p ∈ Fv, scope.names.lookup p.1 = some .free ∧ (p.1 == ("__debug__" : Str)) = false ∧ (p.1 == ("__classdict__" : Str)) = false ∧ ((∃ k, k ≠ none ∧ GetV N l p.1 k p.2) ∨ p ∈ Fo)
  mg : env.globals = mainGlobals
  mb : env.builtins = builtinsNs
theorem CompOk1.closure {Fo Fv G : List (Str × Value)} {scope : Scope} {x : Str} (c : CompOk1 B env N l Fo scope x Fv G) (e : EnvOk env L N) (eF : EnvF env φ Fo) :
    ∃ cl, closureFor scope env = pure cl ∧ ∀ x c, (x, NameKind.free) ∈ scope.names → env.cells.lookup x = some c → cl.lookup x = some c := by
  refine closureFor_of fun x hx => ?_
  rcases c.free x hx with ⟨k, v, hk, g⟩ | ⟨v, g⟩
  · cases k with
    | none => exact absurd rfl hk
    | some c => exact ⟨c, (e.cell x c g.mem).2⟩
  · obtain ⟨_, _, c, o, h1, _⟩ := eF.free _ g; exact ⟨c, h1⟩
theorem comp_set_j1 (n : Nat) (P : Nat → Value → Prop) (need : Own → Prop) (J : Nat → List Value → Own → Prop) (x : Str) (Fv Fo G : List (Str × Value)) {elt target iter : Expr} {ifs : List Expr} {scope : Scope} {pos : Pos} {z : Str} {kz : Option Addr} {pz spos : Pos} {Q : Flow → Shared → Prop}
    (l' : Addr → List (Option Value))
    (S : St B L N l σ φ s₀ s) (e : EnvOk env L N) (eF : EnvF env φ Fo) (ok : CompOk1 B env N l Fo scope x Fv G)
    (hi : wpAny (model prog w) A (eval iter env) (fld fun xv s₁ => wpAny (model prog w) A (pyIter xv) (fun it s₂ => ∃ σ, Ready prog w A B L N l σ φ s₀ n P need it s₂ ∧ J 0 [] σ) E s₁) E s)
    (hneed : ∀ i ys σ, J i ys σ → need σ) (hsz : n ≤ sizeLine) (hlen : ∀ i ys σ, J i ys σ → ys.length ≤ i)
    (turn : ∀ i v ys σ cenv C cc φ' s, i < n → P i v → J i ys σ → EnvOk cenv C [(x, some cc)] → EnvF cenv φ' Fv → EnvG B cenv G → St B C [(x, some cc)] [none] σ φ' s₀ s →
      wpAny (model prog w) A (assign target cenv v) (fun _ s₁ => wpAny (model prog w) A (forIn ifs true fun c r => if r = true then do let ok ← isTrue c cenv (eval c cenv); pure (ForInStep.yield ok) else pure (ForInStep.yield r))
        (fld fun ok s₂ => if ok = true then wpAny (model prog w) A (eval elt cenv) (fld fun y s₃ => ∃ l₃ σ₃, J (i + 1) (ys ++ [y]) σ₃ ∧ St B C [(x, some cc)] l₃ σ₃ φ' s₀ s₃) Nev s₂
          else ∃ l₃ σ₃, J (i + 1) ys σ₃ ∧ St B C [(x, some cc)] l₃ σ₃ φ' s₀ s₂) Nev s₁) Nev s)
    (hset : ∀ D, SetV N l z kz (some (.ref D)) (l' D))
    (fin : ∀ D ys σ s, J n ys σ → σ D = none → St B L N (l' D) (upd σ D (IsL ys)) φ s₀ s → Q .next s)
    (hsw : swapsWith (.ListComp elt [⟨target, iter, ifs, 0⟩] scope pos) (some (.Name z pz)) spos.line env = pure true)
    (ht : ∀ it v, letOwnedTupleGo target it v = pure ()) (hs : ∀ x, foldedSetIterable iter env x = pure x) :
    wpAny (model prog w) A (exec (.Assign [.Name z pz] (.ListComp elt [⟨target, iter, ifs, 0⟩] scope pos) spos) env) Q E s := by
  obtain ⟨cl, hc1, hc2⟩ := ok.closure e eF
  rw [exec_Assign_Name_used _ _ _ _ hsw]
  refine wpAny_bind (wpAny_standAt (wpAny_bind ?_))
  show wpAny _ A (do let _ ← comprehension (.ListComp elt [⟨target, iter, ifs, 0⟩] scope pos) scope env _ (newList []) false (eval iter env) (some (assign (.Name z pz) env))) _ _ s
  refine wpAny_bind (wpAny_mono (wpAny_comprehension_free (use := some (assign (.Name z pz) env)) (Q := fun _ s' => Q .next s') rfl hs hc1 ok.kind ok.names (wpAny_mono hi (fun xv s₁ h₁ => wpAny_mono h₁ (fun it s₂ h₂ => ?_) fun _ _ x => x) fun _ _ x => x))
    (fun _ s' hq => wpAny_pure (wpAny_pure hq)) fun _ _ x => x)
  obtain ⟨σ, rd, j⟩ := h₂
  refine comp_core1 (RR := fun acc C => compPost (model prog w) A E (some (assign (.Name z pz) env)) (fun _ s' => Q .next s') acc C) n P need J x Fv Fo G rd j e eF ok.mg ok.mb hc2 ok.cf ok.pc ok.kind ok.cell ok.glob ok.frees hneed hsz hlen turn ?_ ht
  intro D C ys σ s j hD hC hDC S
  refine wpAny_assign_Name (store_v e S (hset D) fun s' S' => ?_)
  obtain ⟨oC, hoC, nsC⟩ := S'.own C _ upd_self
  obtain ⟨m, hm⟩ := nsC.ns hoC
  refine ⟨m, hm, fun h' hs' => fin D ys σ _ j hD ?_⟩
  refine S'.drop (t := s'.toks) upd_self (KeepBut.of hs') fun a P q => ?_
  have : a ≠ C := (by first | exact ne_sn q (((upd_ne (Ne.symm hDC))).trans hC) | exact ne_ns q (((upd_ne (Ne.symm hDC))).trans hC) | exact ne_sn (((upd_ne (Ne.symm hDC))).trans hC) q | exact ne_ns (((upd_ne (Ne.symm hDC))).trans hC) q)
  exact ⟨this, by rw [upd_ne this]; exact q⟩
end
end
section
open PySem PySem.W PyProof.Rows
theorem Ints.erase {vs : List Value} {ns : List Int} (h : Ints vs ns) (j : Nat) : Ints (vs.eraseIdx j) (ns.eraseIdx j) := by
  rw [List.eraseIdx_eq_take_drop_succ, List.eraseIdx_eq_take_drop_succ]; exact (h.take j).append (h.drop (j + 1))
section
variable {w : World} {B : Heap} {A : Around} {L : Addr} {N : List (Str × Option Addr)} {l : List (Option Value)} {σ : Own} {φ : Frz} {s₀ s : Shared} {E : Value → Shared → Prop}
theorem remove_l {a : Addr} {vs : List Value} {ps : List Nat} {p : Nat} {t : Tok} {Q : Value → Shared → Prop} (S : St B L N l σ φ s₀ s) (h : σ a = some (IsL vs)) (hi : Ints vs (zi ps)) (hp : p ∈ ps) (hz : vs.length ≤ 1000000)
    (hq : ∀ vs' s', Ints vs' (zi (ps.erase p)) → St B L N l (upd σ a (IsL vs')) φ s₀ s' → Q .none s') : wpAny (model PR w) A (call (.builtin "list.remove") [.ref a, .int (p : Nat) t]) Q E s := by
  obtain ⟨n, ho⟩ := S.isL h
  have hl : vs.length = ps.length := by rw [hi.1]; simp
  have hj := List.idxOf_lt_length_of_mem hp
  have gv : ∀ (m : Nat) (hm : m < ps.length), isInt (p : Int) (vs.toArray[m]'(by simp; omega)) = decide (ps[m] = p) := fun m hm => by
    obtain ⟨tm, e⟩ := hi.get (i := m) (k := (ps[m] : Int)) (by simp [hm])
    have : vs[m]'(by omega) = .int (ps[m] : Int) tm := by
      have := List.getElem?_eq_getElem (l := vs) (i := m) (by omega)
      rw [e] at this; exact (Option.some.inj this).symm
    simp [this, isInt]
    by_cases c : ps[m] = p
    · simp [c]
    · simp [c]; omega
  refine call_meets PySem.F.slot_list_remove ⟨_, ho, rfl⟩ PySem.F.entry_list_remove (PySem.F.args_list_remove_2 _ _)
    (MeetsSeq.list_remove a _ n (.int (p : Nat) t) (isInt (p : Int)) (hi.eqGives p t) (ps.idxOf p) (by simp; omega) ?_ (fun m hm hlt => ?_) (by simp [sizeLine_eq]; omega)) ⟨ho, hq (vs.eraseIdx (ps.idxOf p)) _ ?_ ?_⟩
  · rw [gv _ hj]; simp
  · rw [gv m (by simp at hm; omega)]
    have := List.not_of_lt_findIdx (p := (· == p)) (xs := ps) hlt
    simpa using this
  · have := hi.erase (ps.idxOf p)
    rw [List.erase_eq_eraseIdx_of_idxOf rfl]
    have e : ∀ (l : List Nat) (j : Nat), (zi l).eraseIdx j = zi (l.eraseIdx j) := fun l j => by simp [zi, List.eraseIdx_eq_take_drop_succ, List.map_take, List.map_drop]
    rw [e] at this; exact this
  · refine S.turn h ho _ ?_ s.toks
    apply Array.toList_inj.mp
    simp [Array.toList_eraseIdxIfInBounds]
/-- one turn after the other of min -/
theorem min_loop {lt : Value → Value → Bool} {vs : List Value} {a I Sb : Addr} {At : Nat → Obj → Prop} {Rr : Result → Shared → Prop} (R : Rm A 2) (IT : Itr PR w A.in1 I vs.length (fun i v => vs[i]? = some v) At (needL a vs)) (hlt : SWO lt)
    (hc : ∀ σ', Ext σ σ' → ∀ v ∈ vs, ∀ u ∈ vs, CmpOk w σ' v u (lt v u)) (ha : σ a = some (IsL vs)) (hI : σ I = none) (hS : σ Sb = none) (hIS : I ≠ Sb)
    (k : ∀ x s', x ∈ vs → (∀ v ∈ vs, lt v x = false) → St B L N l σ φ s₀ s' → Rr (.ok (.ret x)) s') :
    ∀ (m i : Nat) (bs : List Value) (s : Shared), vs.length - i = m → i ≤ vs.length → 0 < vs.length → ((i = 0 ∧ bs = []) ∨ ∃ vb, bs = [vb, vb] ∧ vb ∈ vs ∧ 0 < i ∧ ∀ v ∈ vs.take i, lt v vb = false) →
      St B L N l (upd (upd σ I (At i)) Sb (IsL bs)) φ s₀ s → codeAny (model PR w) A (.builtin "min.loop" ⟨[.ref I, .none, .ref Sb], []⟩) Rr s := by
  have hname : (toString "min" ++ toString ".loop" : String) = "min.loop" := by decide
  intro m
  induction m with
  | zero =>
    intro i bs s hm hi hv hb S
    have hin : i = vs.length := by (clear hb; omega)
    obtain ⟨vb, rfl, hvb, _, hbest⟩ := hb.resolve_left (fun h => by omega)
    obtain ⟨n, ho⟩ := S.isL upd_self
    obtain ⟨oI, hoI, hat⟩ := S.own I (At i) (by rw [upd_ne hIS, upd_self])
    have hown : ∀ b P, σ b = some P → ∃ o, s.heap.get? b = some o ∧ P o := fun b P q => S.own b P (upd_none (by rw [upd_ne (Ne.symm hIS)]; exact hS) (upd_none hI q))
    refine codeAny_builtin F.entry_min_loop ?_
    rw [Around.under_plainId F.plain_min_loop _]
    show wpAny _ A.in1 (seqItems? (.ref Sb) >>= _) _ _ s
    refine wpAny_bind (wpAny_seqItems ho rfl ?_)
    show wpAny _ A.in1 (tryCatch (pyNext (.ref I)) _ >>= _) _ _ s
    refine wpAny_bind (wpAny_tryCatch (IT.done s σ oI _ _ hoI (hin ▸ hat) ha hI hown fun h' tk hk => ?_))
    have S1 : St B L N l (upd σ Sb (IsL [vb, vb])) φ s₀ { s with heap := h', toks := tk } := S.drop (C := I) (P := At i) (by rw [upd_ne hIS, upd_self]) hk tk fun b P q => by
      have hbI : b ≠ I := (by first | exact ne_sn q (((upd_ne hIS)).trans hI) | exact ne_ns q (((upd_ne hIS)).trans hI) | exact ne_sn (((upd_ne hIS)).trans hI) q | exact ne_ns (((upd_ne hIS)).trans hI) q)
      refine ⟨hbI, ?_⟩
      by_cases c : b = Sb
      · subst c; rw [upd_self] at q ⊢; exact q
      · rw [upd_ne c] at q ⊢; rw [upd_ne hbI]; exact q
    obtain ⟨n', ho'⟩ := S1.isL upd_self
    show wpAny _ A.in1 (updateSeq Sb (fun _ => #[]) >>= _) _ _ _
    refine wpAny_bind ?_
    refine wpAny_updateSeq ho' rfl (wpAny_bind (wpAny_letGo (wpAny_pure ?_)))
    have S2 := S1.turn upd_self ho' (fun _ => #[]) (vs' := []) rfl tk
    exact k vb _ hvb (fun v hv => hbest v (by rw [hin, List.take_length]; exact hv)) (S2.forget fun b P q => by
      have c : b ≠ Sb := (by first | exact ne_sn q hS | exact ne_ns q hS | exact ne_sn hS q | exact ne_ns hS q)
      rw [upd_ne c, upd_ne c]; exact q)
  | succ m ih =>
    intro i bs s hm hi hv hb S
    have hlt' : i < vs.length := by (clear hi hb; omega)
    obtain ⟨n, ho⟩ := S.isL upd_self
    obtain ⟨oI, hoI, hat⟩ := S.own I (At i) (by rw [upd_ne hIS, upd_self])
    have hown : ∀ b P, σ b = some P → ∃ o, s.heap.get? b = some o ∧ P o := fun b P q => S.own b P (upd_none (by rw [upd_ne (Ne.symm hIS)]; exact hS) (upd_none hI q))
    refine codeAny_builtin F.entry_min_loop ?_
    rw [Around.under_plainId F.plain_min_loop _]
    show wpAny _ A.in1 (seqItems? (.ref Sb) >>= _) _ _ s
    refine wpAny_bind (wpAny_seqItems ho rfl ?_)
    show wpAny _ A.in1 (tryCatch (pyNext (.ref I)) _ >>= _) _ _ s
    refine wpAny_bind (wpAny_tryCatch (IT.item i s σ oI _ _ hlt' hoI hat ha hI hown fun v h' tk hP hI' hk => ?_))
    have S1 : St B L N l (upd (upd σ I (At (i + 1))) Sb (IsL bs)) φ s₀ { s with heap := h', toks := tk } := by
      have := S.change (a := I) (P₀ := At i) (P := At (i + 1)) (by rw [upd_ne hIS, upd_self]) hk hI' tk
      rw [upd_comm (Ne.symm hIS), upd_upd] at this
      exact this
    obtain ⟨n', ho'⟩ := S1.isL upd_self
    have hvm : v ∈ vs := List.mem_of_getElem? hP
    have htk : vs.take (i + 1) = vs.take i ++ [v] := by rw [List.take_add_one, hP]; rfl
    rcases hb with ⟨rfl, rfl⟩ | ⟨vb, rfl, hvb, h0, hbest⟩
    · show wpAny _ A.in1 (updateSeq Sb (fun _ => #[v, v]) >>= _) _ _ _
      refine wpAny_bind ?_
      refine wpAny_updateSeq ho' rfl ?_
      rw [hname]
      have S2 := S1.turn upd_self ho' (fun _ => #[v, v]) (vs' := [v, v]) rfl tk
      rw [upd_upd] at S2
      refine wpAny_pure ⟨plainId_quiet F.plain_min_loop _, ih 1 _ _ (by omega) (by omega) hv (.inr ⟨v, rfl, hvm, by omega, fun u hu => ?_⟩) S2⟩
      rw [htk] at hu; simp at hu; subst hu; exact hlt.irr _
    · show wpAny _ A.in1 (tryCatch (holding [v, v] (richCompare .Lt v vb >>= _)) _ >>= _) _ _ _
      have hext : Ext σ (upd (upd σ I (At (i + 1))) Sb (IsL [vb, vb])) := (Ext.rfl.upd hI).upd hS
      refine wpAny_bind (wpAny_tryCatch (wpAny_holding (wpAny_bind (show wpAny (model PR w) _ (compareOp .Lt v vb) _ _ _ from hc _ hext v hvm vb hvb A.in1 B L N l φ s₀ _ _ _ ((R.less (k' := 1) (by omega)).in1) S1 fun s2 S2 => ?_))))
      refine wpAny_bind (wpAny_holding (wpAny_truthy_bool ?_))
      refine wpAny_bind (wpAny_letGo (wpAny_pure ?_))
      obtain ⟨n2, ho2⟩ := S2.isL upd_self
      cases hbt : lt v vb with
      | true =>
        simp only [if_true]
        refine wpAny_bind ?_
        refine wpAny_updateSeq ho2 rfl (wpAny_bind (wpAny_letGo ?_))
        rw [hname]
        have S3 := S2.turn upd_self ho2 (fun _ => #[v, v]) (vs' := [v, v]) rfl s2.toks
        rw [upd_upd] at S3
        refine wpAny_pure ⟨plainId_quiet F.plain_min_loop _, ih (i + 1) _ _ (by omega) (by omega) hv (.inr ⟨v, rfl, hvm, by (clear h0 hlt' hv hi hm; omega), fun u hu => ?_⟩) S3⟩
        rw [htk] at hu
        rcases List.mem_append.mp hu with hu | hu
        · exact hlt.ntr v vb u (hlt.asym _ _ hbt) (hbest u hu)
        · simp at hu; subst hu; exact hlt.irr _
      | false =>
        simp only [Bool.false_eq_true, if_false]
        refine wpAny_bind (wpAny_letGo ?_)
        rw [hname]
        refine wpAny_pure ⟨plainId_quiet F.plain_min_loop _, ih (i + 1) _ _ (by omega) (by omega) hv (.inr ⟨vb, rfl, hvb, by (clear h0 hlt' hv hi hm; omega), fun u hu => ?_⟩) S2⟩
        rw [htk] at hu
        rcases List.mem_append.mp hu with hu | hu
        · exact hbest u hu
        · simp at hu; subst hu; exact hbt
theorem min_l {lt : Value → Value → Bool} {vs : List Value} {a : Addr} {Q : Value → Shared → Prop} (R : Rm A 3) (S : St B L N l σ φ s₀ s) (ha : σ a = some (IsL vs)) (hne : vs ≠ []) (hlt : SWO lt)
    (hc : ∀ σ', Ext σ σ' → ∀ v ∈ vs, ∀ u ∈ vs, CmpOk w σ' v u (lt v u)) (k : ∀ x s', x ∈ vs → (∀ v ∈ vs, lt v x = false) → St B L N l σ φ s₀ s' → Q x s') :
    wpAny (model PR w) A (call (.builtin "min") [.ref a]) Q E s := by
  have hname : (toString "min" ++ toString ".loop" : String) = "min.loop" := by decide
  refine call_function_tree F.kind_min F.plain_min F.entry_min (F.args_min1 _) ?_
  show wpAny _ A.in1 (Builtin.Builtins.bindParams "min" ["key", "default"] 0 ⟨[], []⟩ >>= _) _ _ s
  refine wpAny_bind (wpAny_of_eq (show Builtin.Builtins.bindParams "min" ["key", "default"] 0 ⟨[], []⟩ = pure [none, none] from rfl) ?_)
  refine wpAny_bind (wpAny_pure ?_)
  refine wpAny_bind (iter_list (A := A.in1) R.in1.handled S ha fun it s2 rd => ?_)
  obtain ⟨I, At, rfl, IT, hI, hn, S1⟩ := rd
  refine wpAny_bind (wpAny_newObj_type ?_)
  have S2 := S1.alloc (o := { cls := .type "list", dict := none, data := .seq ([] : List Value).toArray }) (P := IsL []) rfl ⟨_, rfl⟩ s2.toks
  have hS := S1.fresh
  have hIS : I ≠ s2.heap.objs.size := (by first | exact ne_sn hS upd_self | exact ne_ns hS upd_self | exact ne_sn upd_self hS | exact ne_ns upd_self hS)
  rw [upd_ne (Ne.symm hIS)] at hS
  rw [hname]
  refine wpAny_pure ⟨plainId_quiet F.plain_min_loop _, min_loop (R.less (by omega)) IT hlt hc ha hI hS hIS (fun x s' h1 h2 h3 => k x s' h1 h2 h3) _ 0 [] _ rfl (Nat.zero_le _) (List.length_pos_iff.mpr hne) (.inl ⟨rfl, rfl⟩) S2⟩
end
end
section
open PySem PySem.W PyProof.Rows
noncomputable abbrev KF (w : World) : Frag := hd.heap_39 w.params
/-- the sorter's own dict -/
def IsAt (v1 v2 v3 v4 : Value) (o : Obj) : Prop := ∃ (h1 h2 h3 h4 : Int) (t1 t2 t3 t4 : Tok) (n : Nat), o = dictOf [⟨h1, .str (nm "_node2info") t1, v1⟩, ⟨h2, .str (nm "_ready_nodes") t2, v2⟩, ⟨h3, .str (nm "_npassedout") t3, v3⟩, ⟨h4, .str (nm "_nfinished") t4, v4⟩] n
def IsIn (C dx : Addr) (o : Obj) : Prop := o = ⟨.ref C, some dx, .plain, #[]⟩
def IsED (o : Obj) : Prop := o = emptyDict
/-- a node's record -/
def IsNi (p np : Int) (sa dx : Addr) (o : Obj) : Prop := ∃ t t' : Tok, o = ⟨.ref 75, some dx, .plain, #[some (.int p t), some (.int np t'), some (.ref sa)]⟩
def IsD (w : World) (kvs : List (Int × Value)) (o : Obj) : Prop := o.IsDictOf (intKind PR w) kvs
section
variable {w : World} {B : Heap} {A : Around} {L : Addr} {N : List (Str × Option Addr)} {l : List (Option Value)} {σ : Own} {φ : Frz} {s₀ s : Shared} {E : Value → Shared → Prop}
variable {x dx : Addr} {v1 v2 v3 v4 : Value}
theorem St.inst (S : St B L N l σ φ s₀ s) (hx : σ x = some (IsIn 172 dx)) (hdx : σ dx = some (IsAt v1 v2 v3 v4)) : ∃ (h1 h2 h3 h4 : Int) (t1 t2 t3 t4 : Tok) (n : Nat),
    s.heap.get? dx = some (dictOf [⟨h1, .str (nm "_node2info") t1, v1⟩, ⟨h2, .str (nm "_ready_nodes") t2, v2⟩, ⟨h3, .str (nm "_npassedout") t3, v3⟩, ⟨h4, .str (nm "_nfinished") t4, v4⟩] n) ∧
    InstAt s.heap x ⟨.ref 172, some dx, .plain, #[]⟩ 172 (some (dictOf [⟨h1, .str (nm "_node2info") t1, v1⟩, ⟨h2, .str (nm "_ready_nodes") t2, v2⟩, ⟨h3, .str (nm "_npassedout") t3, v3⟩, ⟨h4, .str (nm "_nfinished") t4, v4⟩] n)) := by
  obtain ⟨_, ho, rfl⟩ := S.own x _ hx
  obtain ⟨_, hod, h1, h2, h3, h4, t1, t2, t3, t4, n, rfl⟩ := S.own dx _ hdx
  exact ⟨h1, h2, h3, h4, t1, t2, t3, t4, n, hod, ⟨ho, rfl, rfl, hod⟩⟩
theorem get_n2i {expr : Bool} {Q : Value → Shared → Prop} (hB : Base w B) (S : St B L N l σ φ s₀ s) (hx : σ x = some (IsIn 172 dx)) (hdx : σ dx = some (IsAt v1 v2 v3 v4)) (hh : handedIn v1 = true) (hq : ∀ s', St B L N l σ φ s₀ s' → Q v1 s') :
    wpAny (model PR w) A (getAttr (.ref x) (nm "_node2info") expr) Q E s := by
  obtain ⟨h1, h2, h3, h4, t1, t2, t3, t4, n, hod, I⟩ := S.inst hx hdx
  obtain ⟨m, F, V⟩ := S.fr
  exact get_own (K := KF w) F hB.X I rfl rfl rfl rfl rfl hh (hq _ (S.toks _))
theorem get_rdy {expr : Bool} {Q : Value → Shared → Prop} (hB : Base w B) (S : St B L N l σ φ s₀ s) (hx : σ x = some (IsIn 172 dx)) (hdx : σ dx = some (IsAt v1 v2 v3 v4)) (hh : handedIn v2 = true) (hq : ∀ s', St B L N l σ φ s₀ s' → Q v2 s') :
    wpAny (model PR w) A (getAttr (.ref x) (nm "_ready_nodes") expr) Q E s := by
  obtain ⟨h1, h2, h3, h4, t1, t2, t3, t4, n, hod, I⟩ := S.inst hx hdx
  obtain ⟨m, F, V⟩ := S.fr
  exact get_own (K := KF w) F hB.X I rfl rfl rfl rfl rfl hh (hq _ (S.toks _))
theorem get_npo {expr : Bool} {Q : Value → Shared → Prop} (hB : Base w B) (S : St B L N l σ φ s₀ s) (hx : σ x = some (IsIn 172 dx)) (hdx : σ dx = some (IsAt v1 v2 v3 v4)) (hh : handedIn v3 = true) (hq : ∀ s', St B L N l σ φ s₀ s' → Q v3 s') :
    wpAny (model PR w) A (getAttr (.ref x) (nm "_npassedout") expr) Q E s := by
  obtain ⟨h1, h2, h3, h4, t1, t2, t3, t4, n, hod, I⟩ := S.inst hx hdx
  obtain ⟨m, F, V⟩ := S.fr
  exact get_own (K := KF w) F hB.X I rfl rfl rfl rfl rfl hh (hq _ (S.toks _))
theorem get_nfi {expr : Bool} {Q : Value → Shared → Prop} (hB : Base w B) (S : St B L N l σ φ s₀ s) (hx : σ x = some (IsIn 172 dx)) (hdx : σ dx = some (IsAt v1 v2 v3 v4)) (hh : handedIn v4 = true) (hq : ∀ s', St B L N l σ φ s₀ s' → Q v4 s') :
    wpAny (model PR w) A (getAttr (.ref x) (nm "_nfinished") expr) Q E s := by
  obtain ⟨h1, h2, h3, h4, t1, t2, t3, t4, n, hod, I⟩ := S.inst hx hdx
  obtain ⟨m, F, V⟩ := S.fr
  exact get_own (K := KF w) F hB.X I rfl rfl rfl rfl rfl hh (hq _ (S.toks _))
/-- one entry of the sorter's dict anew -/
theorem set_at {name : Str} {v : Value} {P' : Obj → Prop} {Q : Unit → Shared → Prop} (hB : Base w B) (S : St B L N l σ φ s₀ s) (hx : σ x = some (IsIn 172 dx)) (hdx : σ dx = some (IsAt v1 v2 v3 v4))
    (ht : takerIn (KF w) 172 name = some none)
    (he : ∀ (h1 h2 h3 h4 : Int) (t1 t2 t3 t4 : Tok) (n : Nat) (hsh : Int) (tk : Tok), ∃ es' n', (getL name [⟨h1, .str (nm "_node2info") t1, v1⟩, ⟨h2, .str (nm "_ready_nodes") t2, v2⟩, ⟨h3, .str (nm "_npassedout") t3, v3⟩, ⟨h4, .str (nm "_nfinished") t4, v4⟩]).isSome = true ∧
      (putL name hsh (.str name tk) v [⟨h1, .str (nm "_node2info") t1, v1⟩, ⟨h2, .str (nm "_ready_nodes") t2, v2⟩, ⟨h3, .str (nm "_npassedout") t3, v3⟩, ⟨h4, .str (nm "_nfinished") t4, v4⟩], putN name [⟨h1, .str (nm "_node2info") t1, v1⟩, ⟨h2, .str (nm "_ready_nodes") t2, v2⟩, ⟨h3, .str (nm "_npassedout") t3, v3⟩, ⟨h4, .str (nm "_nfinished") t4, v4⟩] n) = (es', n') ∧ es'.length ≤ 1000 ∧ P' (dictOf es' n'))
    (hq : ∀ s', St B L N l (upd σ dx P') φ s₀ s' → Q () s') : wpAny (model PR w) A (setAttr (.ref x) name v) Q E s := by
  obtain ⟨h1, h2, h3, h4, t1, t2, t3, t4, n, hod, I⟩ := S.inst hx hdx
  obtain ⟨m, F, V⟩ := S.fr
  obtain ⟨es', n', e1, e2, e3, e4⟩ := he h1 h2 h3 h4 t1 t2 t3 t4 n (PyData.keyHash w.params name) (s.toks + 1)
  obtain ⟨nw', U, back⟩ := S.updN hdx hod (dictOf es' n')
  refine set_dict (K := KF w) F hB.X news_rest I rfl rfl rfl ht rfl e1 e2 U e3 fun h' F' N' => hq _ ?_
  obtain ⟨g1, g2⟩ := back h' ⟨m, F'⟩ N'
  exact S.change' hdx V F' g2 ⟨_, g1, e4⟩ _
theorem set_rdy {v : Value} {Q : Unit → Shared → Prop} (hB : Base w B) (S : St B L N l σ φ s₀ s) (hx : σ x = some (IsIn 172 dx)) (hdx : σ dx = some (IsAt v1 v2 v3 v4)) (hq : ∀ s', St B L N l (upd σ dx (IsAt v1 v v3 v4)) φ s₀ s' → Q () s') :
    wpAny (model PR w) A (setAttr (.ref x) (nm "_ready_nodes") v) Q E s :=
  set_at hB S hx hdx rfl (fun h1 h2 h3 h4 t1 t2 t3 t4 n hsh tk => ⟨_, _, rfl, rfl, Nat.le_of_ble_eq_true rfl, _, _, _, _, _, _, _, _, _, rfl⟩) hq
theorem set_npo {v : Value} {Q : Unit → Shared → Prop} (hB : Base w B) (S : St B L N l σ φ s₀ s) (hx : σ x = some (IsIn 172 dx)) (hdx : σ dx = some (IsAt v1 v2 v3 v4)) (hq : ∀ s', St B L N l (upd σ dx (IsAt v1 v2 v v4)) φ s₀ s' → Q () s') :
    wpAny (model PR w) A (setAttr (.ref x) (nm "_npassedout") v) Q E s :=
  set_at hB S hx hdx rfl (fun h1 h2 h3 h4 t1 t2 t3 t4 n hsh tk => ⟨_, _, rfl, rfl, Nat.le_of_ble_eq_true rfl, _, _, _, _, _, _, _, _, _, rfl⟩) hq
theorem set_nfi {v : Value} {Q : Unit → Shared → Prop} (hB : Base w B) (S : St B L N l σ φ s₀ s) (hx : σ x = some (IsIn 172 dx)) (hdx : σ dx = some (IsAt v1 v2 v3 v4)) (hq : ∀ s', St B L N l (upd σ dx (IsAt v1 v2 v3 v)) φ s₀ s' → Q () s') :
    wpAny (model PR w) A (setAttr (.ref x) (nm "_nfinished") v) Q E s :=
  set_at hB S hx hdx rfl (fun h1 h2 h3 h4 t1 t2 t3 t4 n hsh tk => ⟨_, _, rfl, rfl, Nat.le_of_ble_eq_true rfl, _, _, _, _, _, _, _, _, _, rfl⟩) hq
/-- the sorter's methods -/
theorem meth_at {name : Str} {f : Addr} {pl : Sem Bool} {Q : Value × List Value → Shared → Prop} (hB : Base w B) (S : St B L N l σ φ s₀ s) (hx : σ x = some (IsIn 172 dx)) (hdx : σ dx = some (IsAt v1 v2 v3 v4))
    (hg : plainGet (KF w) 172 name = true) (hf : findIn (KF w) (.ref 172) name = some (some (.ref f))) (ht : isFn (KF w) (.ref f) = true)
    (he : ∀ (h1 h2 h3 h4 : Int) (t1 t2 t3 t4 : Tok), getL name [⟨h1, .str (nm "_node2info") t1, v1⟩, ⟨h2, .str (nm "_ready_nodes") t2, v2⟩, ⟨h3, .str (nm "_npassedout") t3, v3⟩, ⟨h4, .str (nm "_nfinished") t4, v4⟩] = some none)
    (hq : Q (.ref f, [.ref x]) s) : wpAny (model PR w) A (getMethod (.ref x) name pl) Q E s := by
  obtain ⟨h1, h2, h3, h4, t1, t2, t3, t4, n, hod, I⟩ := S.inst hx hdx
  obtain ⟨m, F, V⟩ := S.fr
  exact method_inst (K := KF w) F hB.X I hg hf ht (he _ _ _ _ _ _ _ _) hq
end
end
section
open PySem PySem.W PyProof.Rows
def IsSlt (dx : Addr) (sl : Array (Option Value)) (o : Obj) : Prop := o = ⟨.ref 75, some dx, .plain, sl⟩
section
variable {w : World} {B : Heap} {A : Around} {L : Addr} {N : List (Str × Option Addr)} {l : List (Option Value)} {σ : Own} {φ : Frz} {s₀ s : Shared} {E : Value → Shared → Prop}
variable {x dx sa : Addr} {p np : Int}
theorem St.ni (S : St B L N l σ φ s₀ s) (hx : σ x = some (IsNi p np sa dx)) (hdx : σ dx = some IsED) : ∃ t t' : Tok, InstAt s.heap x ⟨.ref 75, some dx, .plain, #[some (.int p t), some (.int np t'), some (.ref sa)]⟩ 75 (some emptyDict) := by
  obtain ⟨_, ho, t, t', rfl⟩ := S.own x _ hx
  obtain ⟨_, hod, rfl⟩ := S.own dx _ hdx
  exact ⟨t, t', ho, rfl, rfl, hod⟩
theorem ni_node {expr : Bool} {Q : Value → Shared → Prop} (hB : Base w B) (S : St B L N l σ φ s₀ s) (hx : σ x = some (IsNi p np sa dx)) (hdx : σ dx = some IsED) (hq : ∀ t s', St B L N l σ φ s₀ s' → Q (.int p t) s') :
    wpAny (model PR w) A (getAttr (.ref x) (nm "node") expr) Q E s := by
  obtain ⟨t, t', I⟩ := S.ni hx hdx
  obtain ⟨m, F, V⟩ := S.fr
  exact get_slot (K := KF w) F hB.X I rfl rfl rfl rfl rfl rfl rfl rfl (hq _ _ (S.toks _))
theorem ni_np {expr : Bool} {Q : Value → Shared → Prop} (hB : Base w B) (S : St B L N l σ φ s₀ s) (hx : σ x = some (IsNi p np sa dx)) (hdx : σ dx = some IsED) (hq : ∀ t s', St B L N l σ φ s₀ s' → Q (.int np t) s') :
    wpAny (model PR w) A (getAttr (.ref x) (nm "npredecessors") expr) Q E s := by
  obtain ⟨t, t', I⟩ := S.ni hx hdx
  obtain ⟨m, F, V⟩ := S.fr
  exact get_slot (K := KF w) F hB.X I rfl rfl rfl rfl rfl rfl rfl rfl (hq _ _ (S.toks _))
theorem ni_su {expr : Bool} {Q : Value → Shared → Prop} (hB : Base w B) (S : St B L N l σ φ s₀ s) (hx : σ x = some (IsNi p np sa dx)) (hdx : σ dx = some IsED) (hq : ∀ s', St B L N l σ φ s₀ s' → Q (.ref sa) s') :
    wpAny (model PR w) A (getAttr (.ref x) (nm "successors") expr) Q E s := by
  obtain ⟨t, t', I⟩ := S.ni hx hdx
  obtain ⟨m, F, V⟩ := S.fr
  exact get_slot (K := KF w) F hB.X I rfl rfl rfl rfl rfl rfl rfl rfl (hq _ (S.toks _))
theorem set_slt {name : Str} {q i : Nat} {sl sl' : Array (Option Value)} {v : Value} {Q : Unit → Shared → Prop} {P' : Obj → Prop} (hB : Base w B) (S : St B L N l σ φ s₀ s) (hx : σ x = some (IsSlt dx sl)) (hdx : σ dx = some IsED)
    (ht : takerIn (KF w) 75 name = some (some (.ref q))) (hT : typeIn (KF w) (.ref q) = some (.type "member_descriptor")) (hi : slotIn (KF w) q 75 = some i) (hz : i < 1000)
    (he : (sl ++ Array.replicate (i + 1 - sl.size) none).setIfInBounds i (some v) = sl') (hp : P' ⟨.ref 75, some dx, .plain, sl'⟩) (hq : ∀ s', St B L N l (upd σ x P') φ s₀ s' → Q () s') :
    wpAny (model PR w) A (setAttr (.ref x) name v) Q E s := by
  obtain ⟨_, ho, rfl⟩ := S.own x _ hx
  obtain ⟨_, hod, rfl⟩ := S.own dx _ hdx
  have I : InstAt s.heap x ⟨.ref 75, some dx, .plain, sl⟩ 75 (some emptyDict) := ⟨ho, rfl, rfl, hod⟩
  obtain ⟨m, F, V⟩ := S.fr
  obtain ⟨nw', U, back⟩ := S.updN hx ho ⟨.ref 75, some dx, .plain, sl'⟩
  refine set_slot (K := KF w) F hB.X news_rest I rfl rfl ht hT hi hz (by rw [← he]) rfl U fun h' F' N' => hq _ ?_
  obtain ⟨g1, g2⟩ := back h' ⟨m, F'⟩ N'
  exact S.change' hx V F' g2 ⟨_, g1, hp⟩ _
theorem set_np {k : Int} {t : Tok} {Q : Unit → Shared → Prop} (hB : Base w B) (S : St B L N l σ φ s₀ s) (hx : σ x = some (IsNi p np sa dx)) (hdx : σ dx = some IsED) (hq : ∀ s', St B L N l (upd σ x (IsNi p k sa dx)) φ s₀ s' → Q () s') :
    wpAny (model PR w) A (setAttr (.ref x) (nm "npredecessors") (.int k t)) Q E s := by
  obtain ⟨_, ho, t1, t2, rfl⟩ := S.own x _ hx
  have hne : dx ≠ x := fun c => by
    subst c; rw [hx] at hdx
    obtain ⟨_, ho', e⟩ := S.own _ _ (hx.trans hdx)
    rw [ho] at ho'; cases ho'; cases e
  have S' : St B L N l (upd σ x (IsSlt dx #[some (.int p t1), some (.int np t2), some (.ref sa)])) φ s₀ s := S.say hx fun o h1 _ => by rw [ho] at h1; cases h1; rfl
  refine set_slt (i := 1) (P' := IsNi p k sa dx) hB S' upd_self (by rw [upd_ne hne]; exact hdx) rfl rfl rfl (by decide) rfl ⟨t1, t, by simp⟩ fun s' S'' => ?_
  rw [upd_upd] at S''
  exact hq s' S''
/-! dicts whose keys are ints -/
variable {d : Addr} {kvs : List (Int × Value)} {k : Int} {t : Tok}
theorem St.dict (S : St B L N l σ φ s₀ s) (h : σ d = some (IsD w kvs)) : s.heap.DictOf (intKind PR w) d kvs := Heap.dictOf_iff.mpr (S.own d _ h)
theorem St.off0 (S : St B L N l σ φ s₀ s) (hB : Base w B) {P : Obj → Prop} (h : σ d = some P) : (d == sysModules) = false := by
  have hne : σ d ≠ none := by rw [h]; exact fun e => by cases e
  have := S.ownB d hne
  cases q : (d == sysModules) with
  | false => rfl
  | true =>
    have e : d = sysModules := beq_iff_eq.mp q
    obtain ⟨o, ho⟩ := hB.sysm
    rw [e, ho] at this; cases this
theorem newDict_d {Q : Value → Shared → Prop} (S : St B L N l σ φ s₀ s) (hq : ∀ a s', σ a = none → St B L N l (upd σ a (IsD w [])) φ s₀ s' → Q (.ref a) s') {env : Env} {pos : Pos} : wpAny (model PR w) A (eval (.Dict [] [] pos) env) Q E s := by
  refine wpAny_Dict_empty ?_
  exact hq _ _ S.fresh (S.alloc (P := IsD w []) rfl ⟨#[], 0, ⟨rfl, rfl, rfl⟩, rfl, fun e he => by simp at he, .nil, .nil⟩ _)
theorem item_d {value slice : Expr} {v : Value} {Q : Value → Shared → Prop} (S : St B L N l σ φ s₀ s) (h : σ d = some (IsD w kvs)) (hv : valueAt kvs k = some v) (hq : ∀ s', St B L N l σ φ s₀ s' → Q v s')
    (hs : subscripted slice false (.ref d) (.int k t) = operate [.ref d, .int k t] (getItem (.ref d) (.int k t)) := by with_unfolding_all rfl) :
    wpAny (model PR w) A (subscriptTail value slice (.ref d) (.int k t)) Q E s :=
  tail_any (S.dict h).typeIs slot_dict_getitem.lookup (wpAny_getItem_of (knd := intKind PR w) (intKind_is _ _ k t) (S.dict h).mapOf hv (hq _ (S.toks _))) hs
theorem set_d {v : Value} {Q : Unit → Shared → Prop} (S : St B L N l σ φ s₀ s) (h : σ d = some (IsD w kvs)) (hz : kvs.length ≤ sizeLine) (hq : ∀ s', St B L N l (upd σ d (IsD w (stored kvs k v))) φ s₀ s' → Q () s') :
    wpAny (model PR w) A (setItem (.ref d) (.int k t) v) Q E s :=
  wpAny_setItem_pairs (knd := intKind PR w) (intKind_is _ _ k t) (S.dict h) (fun h' hd hs => hq _ (S.change h (KeepBut.of hs) (Heap.dictOf_iff.mp hd) _)) hz
theorem in_d {Q : Value → Shared → Prop} (hB : Base w B) (S : St B L N l σ φ s₀ s) (h : σ d = some (IsD w kvs)) (hq : ∀ s', St B L N l σ φ s₀ s' → Q (.bool (valueAt kvs k).isSome) s') :
    wpAny (model PR w) A (compareOp .In (.int k t) (.ref d)) Q E s :=
  wpAny_in_of (knd := intKind PR w) (intKind_is _ _ k t) (S.off0 hB h) (S.dict h).mapOf (hq _ (S.toks _))
theorem meth_d {name : Str} {id : String} {pl : Sem Bool} {Q : Value × List Value → Shared → Prop} (S : St B L N l σ φ s₀ s) (h : σ d = some (IsD w kvs)) (slot : Slot "dict" name id) (hty : typeOf (.builtin id) = pure (.type "method_descriptor"))
    (hq : Q (.builtin id, [.ref d]) s) : wpAny (model PR w) A (getMethod (.ref d) name pl) Q E s :=
  getMethod_builtin (S.dict h).typeIs PySem.F.plainAttrs_dict slot hty (S.dict h).mapOf.noDict hq
theorem get_d {Q : Value → Shared → Prop} (hB : Base w B) (S : St B L N l σ φ s₀ s) (h : σ d = some (IsD w kvs)) (hq : ∀ s', St B L N l σ φ s₀ s' → Q ((valueAt kvs k).getD .none) s') :
    wpAny (model PR w) A (call (.builtin "dict.get") [.ref d, .int k t]) Q E s :=
  call_meetsIn PySem.F.slot_dict_get (S.dict h).typeIs PySem.F.entry_dict_get (PySem.F.args_dict_get_2 _ _) (meets_dict_get (intKind PR w) d (intKind_is _ _ k t) (S.off0 hB h)) ⟨_, (S.dict h).mapOf, hq _ (S.toks _)⟩
theorem del_d {Q : Unit → Shared → Prop} (S : St B L N l σ φ s₀ s) (h : σ d = some (IsD w kvs)) (hv : (valueAt kvs k).isSome = true) (hz : kvs.length ≤ sizeLine) (hq : ∀ s', St B L N l (upd σ d (IsD w (without kvs k))) φ s₀ s' → Q () s') :
    wpAny (model PR w) A (delItem (.ref d) (.int k t)) Q E s := by
  have hD := S.dict h
  unfold delItem
  try with_reducible refine wpAny_holding ?_
  refine wpAny_bind (wpAny_sequenceKey hD.typeIs (by decide) ?_)
  refine wpAny_bind (wpAny_callSpecial?_slot (name := Str.ofString "__delitem__") hD.typeIs PySem.F.slot_dict_delitem
    (call_meetsIn PySem.F.slot_dict_delitem hD.typeIs PySem.F.entry_dict_delitem (PySem.F.args_dict_delitem_2 _ _) (meets_dict_delitem_pairs (intKind PR w) d (intKind_is _ _ k t)) ⟨kvs, hD, hz, hv, fun h' hmm hs => ?_⟩))
  exact wpAny_pure (hq _ (S.change h (KeepBut.of hs) (Heap.dictOf_iff.mp hmm) _))
/-! its keys and values one by one -/
def IsDE (w : World) (kvs : List (Int × Value)) (ep : Nat) (o : Obj) : Prop := ∃ es, o.ExactDict ∧ o.data = .dict es ep ∧ KeysOf (intKind PR w) es ∧ Pairs (intKind PR w) es.toList kvs ∧ (kvs.map (·.1)).Nodup
theorem St.openD (S : St B L N l σ φ s₀ s) (h : σ d = some (IsD w kvs)) : ∃ ep, St B L N l (upd σ d (IsDE w kvs ep)) φ s₀ s := by
  obtain ⟨o, ho, es, ep, r⟩ := S.own d _ h
  exact ⟨ep, S.say h fun o' h1 _ => by rw [ho] at h1; cases h1; exact ⟨es, r⟩⟩
theorem St.closeD {ep : Nat} (S : St B L N l σ φ s₀ s) (h : σ d = some (IsDE w kvs ep)) : St B L N l (upd σ d (IsD w kvs)) φ s₀ s := S.say h fun o _ ⟨es, r⟩ => ⟨es, ep, r⟩
def needD (w : World) (d : Addr) (kvs : List (Int × Value)) (ep : Nat) (σ : Own) : Prop := σ d = some (IsDE w kvs ep)
theorem itr_keys (hh : A.handled = none) (I d : Addr) (kvs : List (Int × Value)) (ep : Nat) :
    Itr PR w A I kvs.length (fun i v => ∃ k x t, kvs[i]? = some (k, x) ∧ v = .int k t) (fun i o => o.cls = .type "dict_keyiterator" ∧ o.data = .fields #[.ref d, .int i 0, .int kvs.length 0, .int ep 0]) (needD w d kvs ep) where
  item := fun i s σ o Q E hi ho hat hn hI hown hQ => by
    obtain ⟨od, hod, es, r⟩ := hown d _ hn
    obtain ⟨⟨k, x⟩, hx⟩ : ∃ p, kvs[i]? = some p := ⟨kvs[i], by simp [hi]⟩
    refine wpAny_pyNext_dict_item (knd := intKind PR w) (d := d) (ep := ep) ⟨o, ho, hat⟩ ⟨od, es, hod, r⟩ hx fun key h' hkey hit' hs' => ?_
    obtain ⟨o', ho', hat'⟩ := hit'
    obtain ⟨tk, rfl⟩ := Value.isInt_shape hkey
    exact hQ _ h' s.toks ⟨k, x, tk, hx, rfl⟩ ⟨o', ho', hat'⟩ fun b o hb e => (hs'.2 b hb).trans e
  done := fun s σ o Q E ho hat hn hI hown hQ => by
    obtain ⟨od, hod, es, r⟩ := hown d _ hn
    exact wpAny_pyNext_dict_end (knd := intKind PR w) (i := kvs.length) (d := d) (ep := ep) (kvs := kvs) hh ⟨o, ho, hat⟩ ⟨od, es, hod, r⟩ (by simp) fun h' he' => hQ h' s.toks fun b o hb e => he' b o hb e
  self := fun i s o Q E ho hat hQ => wpAny_pyIter_keyiter (i := i) ⟨o, ho, hat⟩ hQ
theorem itr_vals (hh : A.handled = none) (I d : Addr) (kvs : List (Int × Value)) (ep : Nat) :
    Itr PR w A I kvs.length (fun i v => ∃ k, kvs[i]? = some (k, v)) (fun i o => o.cls = .type "dict_valueiterator" ∧ o.data = .fields #[.ref d, .int i 0, .int kvs.length 0, .int ep 0]) (needD w d kvs ep) where
  item := fun i s σ o Q E hi ho hat hn hI hown hQ => by
    obtain ⟨od, hod, es, r⟩ := hown d _ hn
    obtain ⟨⟨k, x⟩, hx⟩ : ∃ p, kvs[i]? = some p := ⟨kvs[i], by simp [hi]⟩
    refine wpAny_pyNext_values_item (knd := intKind PR w) (d := d) (ep := ep) ⟨o, ho, hat⟩ ⟨od, es, hod, r⟩ hx fun h' hit' hs' => ?_
    obtain ⟨o', ho', hat'⟩ := hit'
    exact hQ _ h' s.toks ⟨k, hx⟩ ⟨o', ho', hat'⟩ fun b o hb e => (hs'.2 b hb).trans e
  done := fun s σ o Q E ho hat hn hI hown hQ => by
    obtain ⟨od, hod, es, r⟩ := hown d _ hn
    exact wpAny_pyNext_values_end (knd := intKind PR w) (i := kvs.length) (d := d) (ep := ep) (kvs := kvs) hh ⟨o, ho, hat⟩ ⟨od, es, hod, r⟩ (by simp) fun h' he' => hQ h' s.toks fun b o hb e => he' b o hb e
  self := fun i s o Q E ho hat hQ => wpAny_pyIter_valiter (i := i) ⟨o, ho, hat⟩ hQ
theorem iter_keys {ep : Nat} {Q : Value → Shared → Prop} (hB : Base w B) (R : A.handled = none) (S : St B L N l σ φ s₀ s) (h : σ d = some (IsDE w kvs ep))
    (hq : ∀ it s', Ready PR w A B L N l σ φ s₀ kvs.length (fun i v => ∃ k x t, kvs[i]? = some (k, x) ∧ v = .int k t) (needD w d kvs ep) it s' → Q it s') : wpAny (model PR w) A (pyIter (.ref d)) Q E s := by
  obtain ⟨od, hod, es, r⟩ := S.own d _ h
  refine wpAny_pyIter_dict (knd := intKind PR w) (S.off0 hB h) (kvs := kvs) (ep := ep) ⟨od, es, hod, r⟩ (hq _ _ ⟨_, _, rfl, itr_keys R s.heap.objs.size d kvs ep, S.fresh, h, ?_⟩)
  exact S.alloc (P := fun o => o.cls = .type "dict_keyiterator" ∧ o.data = .fields #[.ref d, .int (0 : Nat) 0, .int kvs.length 0, .int ep 0]) rfl ⟨rfl, rfl⟩ s.toks
def IsVw (d : Addr) (o : Obj) : Prop := o.cls = .type "dict_values" ∧ o.data = .fields #[.ref d]
theorem values_d {Q : Value → Shared → Prop} (hB : Base w B) (S : St B L N l σ φ s₀ s) (h : σ d = some (IsD w kvs)) (hq : ∀ a s', σ a = none → St B L N l (upd σ a (IsVw d)) φ s₀ s' → Q (.ref a) s') :
    wpAny (model PR w) A (call (.builtin "dict.values") [.ref d]) Q E s :=
  call_meetsIn PySem.F.slot_dict_values (S.dict h).typeIs PySem.F.entry_dict_values (PySem.F.args_dict_values_1 _) (meets_dict_values (intKind PR w) d (S.off0 hB h)) ⟨⟨kvs, S.dict h⟩, hq _ _ S.fresh (S.alloc (P := IsVw d) rfl ⟨rfl, rfl⟩ s.toks)⟩
theorem iter_vals {a : Addr} {ep : Nat} {Q : Value → Shared → Prop} (R : A.handled = none) (S : St B L N l (upd σ a (IsVw d)) φ s₀ s) (ha : σ a = none) (h : σ d = some (IsDE w kvs ep))
    (hq : ∀ it s', Ready PR w A B L N l σ φ s₀ kvs.length (fun i v => ∃ k, kvs[i]? = some (k, v)) (needD w d kvs ep) it s' → Q it s') : wpAny (model PR w) A (pyIter (.ref a)) Q E s := by
  obtain ⟨ov, hov, hv⟩ := S.own a _ upd_self
  obtain ⟨od, hod, es, r⟩ := S.own d _ (upd_none ha h)
  have S1 := S.forget (σ' := σ) fun a P q => upd_none ha q
  refine wpAny_pyIter_values (knd := intKind PR w) (d := d) (kvs := kvs) (ep := ep) ⟨ov, hov, hv⟩ ⟨od, es, hod, r⟩ (hq _ _ ⟨_, _, rfl, itr_vals R s.heap.objs.size d kvs ep, S1.fresh, h, ?_⟩)
  exact S1.alloc (P := fun o => o.cls = .type "dict_valueiterator" ∧ o.data = .fields #[.ref d, .int (0 : Nat) 0, .int kvs.length 0, .int ep 0]) rfl ⟨rfl, rfl⟩ s.toks
/-! sets of ints -/
def IsSe (w : World) (S : Int → Bool) (n : Nat) (o : Obj) : Prop := o.SetObjOf (intKind PR w) S n
theorem newSet_e {Q : Value → Shared → Prop} (S : St B L N l σ φ s₀ s) (hq : ∀ a s', σ a = none → St B L N l (upd σ a (IsSe w (fun _ => false) 0)) φ s₀ s' → Q (.ref a) s') : wpAny (model PR w) A (call (.type "set") []) Q E s := by
  obtain ⟨m, F, V⟩ := S.fr
  exact newSet_N F news_rest fun h' led F' N' => hq _ _ S.fresh (S.madeN (P := IsSe w (fun _ => false) 0) V F' N' size_none (setObjOf_fresh led) s.toks)
variable {a : Addr} {Se : Int → Bool} {n : Nat}
theorem St.set (S : St B L N l σ φ s₀ s) (h : σ a = some (IsSe w Se n)) (hn : n < 4000) : s.heap.SetOf (intKind PR w) a Se n := by
  obtain ⟨o, ho, hso⟩ := S.own a _ h
  exact Obj.SetObjOf.setOf hso ho (by unfold scanBound; omega)
theorem in_e {Q : Value → Shared → Prop} (S : St B L N l σ φ s₀ s) (h : σ a = some (IsSe w Se n)) (hn : n < 4000) (hq : ∀ s', St B L N l σ φ s₀ s' → Q (.bool (Se k)) s') : wpAny (model PR w) A (compareOp .In (.int k t) (.ref a)) Q E s :=
  wpAny_inSet_of (knd := intKind PR w) (intKind_is _ _ k t) rfl (S.set h hn) (hq _ (S.toks _))
theorem meth_e {pl : Sem Bool} {Q : Value × List Value → Shared → Prop} (S : St B L N l σ φ s₀ s) (h : σ a = some (IsSe w Se n)) (hn : n < 4000) (hq : Q (.builtin "set.add", [.ref a]) s) : wpAny (model PR w) A (getMethod (.ref a) (nm "add") pl) Q E s :=
  getMethod_set_add (knd := intKind PR w) (S.set h hn) hq
theorem add_e {Q : Value → Shared → Prop} (S : St B L N l σ φ s₀ s) (h : σ a = some (IsSe w Se n)) (hn : n < 4000) (hq : ∀ s', St B L N l (upd σ a (IsSe w (fun k' => Se k' || decide (k' = k)) (if Se k then n else n + 1))) φ s₀ s' → Q .none s') :
    wpAny (model PR w) A (call (.builtin "set.add") [.ref a, .int k t]) Q E s :=
  call_set_add (knd := intKind PR w) (intKind_is _ _ k t) rfl (S.set h hn) (by unfold scanBound; omega) fun h' hs hS => hq _ (S.change h (KeepBut.of hs) hS.objOf _)
end
end
section
open PySem PySem.W PyProof.Rows
section
variable {w : World} {B : Heap} {A : Around} {L : Addr} {N : List (Str × Option Addr)} {l : List (Option Value)} {σ : Own} {φ : Frz} {s₀ s : Shared} {E : Value → Shared → Prop}
theorem Rm.make {k : Nat} {C : Addr} {rest : List Value} (r : Rm A (k + 1)) : Rm (A.under (.builtin "type.__call__" ⟨.ref C :: rest, []⟩)) k := by
  have h1 : (Code.builtin "type.__call__" ⟨.ref C :: rest, []⟩).weight = 1 := by rfl
  have h2 : (Code.builtin "type.__call__" ⟨.ref C :: rest, []⟩).cUnits ≤ 4 := by exact Nat.le_of_ble_eq_true rfl
  refine ⟨?_, ?_, r.handled⟩
  · show A.depth + _ + k < _
    rw [h1]; have := r.depth; (clear h2 h1; omega)
  · show A.units + _ + 10 * k + 100 < _
    have := r.units; omega
theorem make_st {C fI : Addr} {args : List Value} {Rs : Result → Shared → Prop} (hB : Base w B) (S : St B L N l σ φ s₀ s) (hm : makesIn (KF w) C = true) (hi : findIn (KF w) (.ref C) "__init__" = some (some (.ref fI))) (hf : typeIn (KF w) (.ref fI) = some (.type "function"))
    (h : ∀ x dx s', σ x = none → σ dx = none → x ≠ dx → St B L N l (upd (upd σ dx IsED) x (IsIn C dx)) φ s₀ s' → codeAny (model PR w) (A.under (.builtin "type.__call__" ⟨.ref C :: args, []⟩)) (.call (.ref fI) ⟨.ref x :: args, []⟩) (InitBack x Rs) s') :
    codeAny (model PR w) A (.call (.ref C) ⟨args, []⟩) Rs s := by
  obtain ⟨m, F, V⟩ := S.fr
  refine make_K (K := KF w) F news_rest (hB.X.keeps S.base) hm hi hf fun x dx h' F' N' hlt hxd => ?_
  have big : ∀ a, dx ≤ a → a ≠ L → B.get? a = none → s.heap.get? a = none := fun a ha hL hb => by
    cases q : s.heap.get? a with
    | none => rfl
    | some o => have := hlt (a, o) (mem_rest.mpr ⟨q, hL, hb⟩); exact absurd this (Nat.not_lt.mpr ha)
  have hdx := N' (dx, emptyDict) (.tail _ (.head _))
  have hx := N' (x, instObj C dx) (.head _)
  have f1 : s.heap.get? dx = none := big dx (Nat.le_refl _) hdx.2.1 hdx.2.2
  have f2 : s.heap.get? x = none := big x (Nat.le_of_lt hxd) hx.2.1 hx.2.2
  have S1 : St B L N l (upd σ dx IsED) φ s₀ { s with heap := h', toks := s.toks } := S.madeN (P := IsED) V F' (fun p hp => N' p (.tail _ hp)) f1 rfl s.toks
  have S2 : St B L N l (upd (upd σ dx IsED) x (IsIn C dx)) φ s₀ { s with heap := h', toks := s.toks } := S1.take ⟨_, hx.1, rfl⟩ hx.2.1 (fun y c hm e => by
    subst e
    obtain ⟨v, o, ho, _⟩ := V.has_cell hm
    rw [f2] at ho; cases ho) hx.2.2 (S.freeφ f2)
  exact h x dx _ (S.free f2) (S.free f1) (Nat.ne_of_gt hxd) S2
/-- a call that lays its further arguments into a tuple -/
theorem code_star {f : Addr} {fo : Obj} {fd : FuncData} {body : List Stmt} {args vs : List Value} {g₁ : Addr → Option (List (Str × Value))} {binds : Addr → List (Str × Value)} {Rs : Result → Shared → Prop} (N' : List Str) (l' : Addr → List (Option Value)) (G : List (Str × Value)) (Post : Value → Own → Prop)
    (hB : Base w B) (S : St B L N l σ φ s₀ s) (hroom : A.depth < recursionLimit) (hG : ∀ p ∈ G, GlobIs B p.1 p.2) (ho : B.get? f = some fo) (hdata : fo.data = .func fd) (hcd : B.CodeRec fd.code fd.qualname) (hbody : fd.body = .stmts body)
    (hp : peek1 (KF w) ⟨PR, w.params⟩ (bindArgs fd ⟨args, []⟩) = some (({ cls := .type "tuple", data := .seq vs.toArray } : Obj), g₁)) (hg : ∀ D, g₁ D = some (binds D))
    (hcell : ∀ x ∈ fd.scope.names, x.2 ≠ .cell) (hloc : ∀ D, ∀ x ∈ binds D, fd.scope.names.lookup x.1 = some .local)
    (nd : N'.Nodup) (hchk : envChk fd.scope.names (N'.map (·, false)) (G.map (·.1)) = true) (hglo : fd.globals = mainGlobals) (hblt : fd.builtins = builtinsNs)
    (hv : ∀ D h, Vars h (fun x => (binds D).reverse.lookup x) (N'.map (·, none)) (l' D))
    (h : ∀ env A' L' φ' s' D, σ D = none → EnvOk env L' (N'.map (·, none)) → EnvG B env G → Deeper A A' → St B L' (N'.map (·, none)) (l' D) (upd σ D (IsTp vs)) φ' s₀ s' →
      wpAny (model PR w) A' (execs body env) (fun fl s'' => ∃ l'' σ', St B L' (N'.map (·, none)) l'' σ' φ' s₀ s'' ∧ Post (retOf fl) σ') Nev s')
    (k : ∀ v σ' s'', Post v σ' → St B L N l σ' φ s₀ s'' → Rs (.ok (.ret v)) s'')
    (hco : fd.scope.isCoroutine = false := by rfl) (hgen : fd.scope.isGenerator = false := by rfl) (hk : fd.scope.kind = .function := by rfl) :
    codeAny (model PR w) A (.call (.ref f) ⟨args, []⟩) Rs s := by
  obtain ⟨m, F, V⟩ := S.fr
  refine codeAny_call_function hroom (S.base f fo ho) hdata hco hgen hbody (hcd.keeps S.base) ?_
  refine wp_of_peek1 (K := KF w) F news_rest (hB.X.keeps S.base) rfl (r := binds) (fun D h' F' N'' hlt => ?_) _ g₁ hp hg
  have hD := N'' (D, _) (.head _)
  have f1 : s.heap.get? D = none := by
    cases q : s.heap.get? D with
    | none => rfl
    | some o => have := hlt (D, o) (mem_rest.mpr ⟨q, hD.2.1, hD.2.2⟩); exact absurd this (Nat.lt_irrefl _)
  have S1 : St B L N l (upd σ D (IsTp vs)) φ s₀ { s with heap := h', toks := s.toks } := S.madeN (P := IsTp vs) V F' N'' f1 ⟨_, rfl⟩ s.toks
  refine wpAny_newFunctionEnv hcell (hloc D) (fun h₁ hns hsb => ⟨?_, codeAny_func ?_⟩) hk
  · exact (hB.lim.keeps S1.base).fresh _ hsb
  have hk₁ : ∀ b o, h'.get? b = some o → h₁.get? b = some o := fun b o e => hsb.extBut b o (Nat.ne_of_lt (Heap.lt_size e)) (Heap.get?_push_of_some _ e)
  have hCa : B.objs.size ≤ h'.objs.size := by
    obtain ⟨oL, hL⟩ := S1.L_in
    exact Nat.le_of_lt (Nat.lt_of_le_of_lt S1.above (Heap.lt_size hL))
  have nocell : ∀ x c, (x, some c) ∈ N'.map (fun x => (x, (none : Option Addr))) → False := fun x c hm => by obtain ⟨y, _, e⟩ := List.mem_map.mp hm; cases e
  have S' := S1.enter (σ := upd σ D (IsTp vs)) (C := h'.objs.size) (N' := N'.map (·, none)) (l' := l' D) (t := s.toks + (binds D).length) (fun _ _ e => e) hk₁ S1.fresh hCa hns (hv _ _) (fun x c hm => (nocell x c hm).elim)
  have e1 : EnvOk (newEnv fd.scope h'.objs.size fd.globals fd.closure (fd.qualname ++ ".<locals>.") (some f) fd.code none fd.builtins) h'.objs.size (N'.map (·, none)) := by
    refine { locals := rfl, kind := hk, loc := fun x hm => ?_, cell := fun x c hm => (nocell x c hm).elim, dbg := fun p hm => ?_, nodup := ?_, cnodup := ?_ }
    · obtain ⟨y, hy, e⟩ := List.mem_map.mp hm
      cases e
      unfold envChk at hchk
      have := List.all_eq_true.mp (Bool.and_eq_true_iff.mp hchk).1 (x, false) (List.mem_map.mpr ⟨x, hy, rfl⟩)
      exact beq_iff_eq.mp (Bool.and_eq_true_iff.mp this).1
    · obtain ⟨y, hy, e⟩ := List.mem_map.mp hm
      cases e
      unfold envChk at hchk
      have := List.all_eq_true.mp (Bool.and_eq_true_iff.mp hchk).1 (y, false) (List.mem_map.mpr ⟨y, hy, rfl⟩)
      simpa using (Bool.and_eq_true_iff.mp this).2
    · rw [List.map_map]
      have : ((fun x : Str × Option Addr => x.1) ∘ fun x => (x, none)) = id := rfl
      rw [this, List.map_id]; exact nd
    · rw [List.filterMap_map]
      have : N'.filterMap ((fun x : Str × Option Addr => x.2) ∘ fun x => (x, none)) = [] := List.filterMap_eq_nil_iff.mpr fun _ _ => rfl
      rw [this]; exact .nil
  refine wpAny_mono (h _ _ _ _ _ D (S.free f1) e1 (envG_of (names := fd.scope.names) rfl hk hglo hblt hG hchk) deeper_of S') (fun fl s'' hh => ?_) fun _ _ x => x.elim
  obtain ⟨l'', σ', S'', hpo⟩ := hh
  have S3 := S1.leave (σ := upd σ D (IsTp vs)) (h₁ := h₁) (fun _ _ e => e) hk₁ (fun a ha => ?_) S''
  · have fin := k _ σ' s'' hpo (S3.forget mrg_self)
    cases fl <;> exact fin
  · have : a = h'.objs.size := by
      rcases List.mem_cons.mp ha with h | h
      · exact h
      · obtain ⟨⟨x, k⟩, hm, e⟩ := List.mem_filterMap.mp h
        cases e; exact (nocell _ _ hm).elim
    subst this
    refine ⟨fun e => ?_, fun x c hm e => ?_, S1.freeφ size_none⟩
    · obtain ⟨oL, hL⟩ := S1.L_in; exact absurd (Heap.lt_size hL) (by rw [← e]; exact Nat.lt_irrefl _)
    · obtain ⟨m, _, hv⟩ := S1.vars
      obtain ⟨v, o, ho, _⟩ := hv.has_cell hm
      exact absurd (Heap.lt_size ho) (by rw [e]; exact Nat.lt_irrefl _)
end
end
section
open PySem PySem.W PyProof.Rows
section
variable {w : World} {B : Heap} {A : Around} {L : Addr} {N : List (Str × Option Addr)} {l : List (Option Value)} {σ : Own} {φ : Frz} {s₀ s : Shared} {E : Value → Shared → Prop}
theorem ni_make (hB : Base w B) (R : Rm A 3) (S : St B L N l σ φ s₀ s) (p : Int) (tp : Tok) {Q : Value → Shared → Prop}
  (k : ∀ x dx sa s', σ x = none → σ dx = none → σ sa = none → x ≠ dx → x ≠ sa → dx ≠ sa → St B L N l (upd (upd (upd σ dx IsED) sa (IsL [])) x (IsNi p 0 sa dx)) φ s₀ s' → Q (.ref x) s') :
  wpAny (model PR w) A (call (.ref 75) [.int p tp]) Q E s := by
  refine wpAny_call (make_st hB S rfl rfl rfl fun x dx s1 hx hdx hne S => ?_)
  have R' : Rm (A.under (.builtin "type.__call__" ⟨[.ref 75, .int p tp], []⟩)) 2 := R.make
  refine code_st [(nm "self", false), (nm "node", false)] [some (.ref x), some (.int p tp)] [] (fun v σ' => v = .none ∧ ∃ sa, σ sa = none ∧ x ≠ sa ∧ dx ≠ sa ∧ σ' = upd (upd (upd σ dx IsED) sa (IsL [])) x (IsNi p 0 sa dx))
    S (by have := R'.depth; omega) hB.lim (fun _ h => nomatch h) (hB.X _ _ rfl) rfl (codeRec_of hB.X rfl) rfl rfl rfl rfl rfl (cells_loc rfl) (no_cells rfl) (by decide) rfl (by walk_at "init") ?_ ?_
  · intro env A' L' κ φ' s' _ e eG dA S'
    have R'' := R'.deeper dA
    dsimp only [List.map] at S' e ⊢
    dsimp only [cond] at S' e ⊢
    have hdx1 : ∀ P, upd (upd σ dx IsED) x P dx = some IsED := fun P => by rw [upd_ne (Ne.symm hne), upd_self]
    walk_at "m"
    refine set_slt (sl := #[]) (i := 0) (P' := IsSlt dx #[some (.int p tp)]) hB S' upd_self (hdx1 _) rfl rfl rfl (by decide) rfl rfl fun s S => ?_
    rw [upd_upd] at S
    walk_at "m"
    refine set_slt (i := 1) (P' := IsSlt dx #[some (.int p tp), some (.int 0 t)]) hB S upd_self (hdx1 _) rfl rfl rfl (by decide) rfl rfl fun s S => ?_
    rw [upd_upd] at S
    walk_at "m"
    refine newList_l S (by simp) fun sa s hsa S => ?_
    have hsx : x ≠ sa := (by first | exact ne_sn hsa upd_self | exact ne_ns hsa upd_self | exact ne_sn upd_self hsa | exact ne_ns upd_self hsa)
    have hsd : dx ≠ sa := (by first | exact ne_sn hsa (hdx1 _) | exact ne_ns hsa (hdx1 _) | exact ne_sn (hdx1 _) hsa | exact ne_ns (hdx1 _) hsa)
    have hs0 : σ sa = none := by rwa [upd_ne (Ne.symm hsx), upd_ne (Ne.symm hsd)] at hsa
    walk_at "m"
    refine set_slt (i := 2) (sl := #[some (.int p tp), some (.int 0 t)]) (P' := IsNi p 0 sa dx) hB S (by rw [upd_ne hsx, upd_self]) (by rw [upd_ne hsd]; exact hdx1 _) rfl rfl rfl (by decide) rfl ⟨_, _, rfl⟩ fun s S => ?_
    walk_at "m"
    refine ⟨_, _, S, rfl, sa, hs0, hsx, hsd, ?_⟩
    rw [upd_comm (Ne.symm hsx), upd_upd, upd_comm hsx]
  · rintro v σ' s'' ⟨rfl, sa, h1, h2, h3, rfl⟩ S''; exact ⟨rfl, k x dx sa s'' hx hdx h1 hne h2 h3 S''⟩
end
end
section
open PySem PySem.W PyProof.Rows
def IsRw (es : List DictEntry) (o : Obj) : Prop := ∃ n, o = dictOf es n
section
variable {w : World} {B : Heap} {A : Around} {L : Addr} {N : List (Str × Option Addr)} {l : List (Option Value)} {σ : Own} {φ : Frz} {s₀ s : Shared} {E : Value → Shared → Prop}
theorem set_raw {x dx : Addr} {name : Str} {v : Value} {es : List DictEntry} {Q : Unit → Shared → Prop} (hB : Base w B) (S : St B L N l σ φ s₀ s) (hx : σ x = some (IsIn 172 dx)) (hdx : σ dx = some (IsRw es))
    (ht : takerIn (KF w) 172 name = some none) (hl : (getL name es).isSome = true) (hz : ∀ hsh tk, (putL name hsh (.str name tk) v es).length ≤ 1000)
    (hq : ∀ hsh tk s', St B L N l (upd σ dx (IsRw (putL name hsh (.str name tk) v es))) φ s₀ s' → Q () s') : wpAny (model PR w) A (setAttr (.ref x) name v) Q E s := by
  obtain ⟨_, ho, rfl⟩ := S.own x _ hx
  obtain ⟨_, hod, n, rfl⟩ := S.own dx _ hdx
  have I : InstAt s.heap x ⟨.ref 172, some dx, .plain, #[]⟩ 172 (some (dictOf es n)) := ⟨ho, rfl, rfl, hod⟩
  obtain ⟨m, F, V⟩ := S.fr
  obtain ⟨nw', U, back⟩ := S.updN hdx hod (dictOf (putL name (PyData.keyHash w.params name) (.str name (s.toks + 1)) v es) (putN name es n))
  refine set_dict (K := KF w) F hB.X news_rest I rfl rfl rfl ht rfl hl rfl U (hz _ _) fun h' F' N' => hq (PyData.keyHash w.params name) (s.toks + 1) _ ?_
  obtain ⟨g1, g2⟩ := back h' ⟨m, F'⟩ N'
  exact S.change' hdx V F' g2 ⟨_, g1, _, rfl⟩ _
theorem srt_make (hB : Base w B) (R : Rm A 3) (S : St B L N l σ φ s₀ s) {Q : Value → Shared → Prop}
  (k : ∀ x dx nd t3 t4 s', σ x = none → σ dx = none → σ nd = none → x ≠ dx → x ≠ nd → dx ≠ nd → St B L N l (upd (upd (upd σ x (IsIn 172 dx)) nd (IsD w [])) dx (IsAt (.ref nd) .none (.int 0 t3) (.int 0 t4))) φ s₀ s' → Q (.ref x) s') :
  wpAny (model PR w) A (call (.ref 172) []) Q E s := by
  refine wpAny_call (make_st hB S rfl rfl rfl fun x dx s1 hx hdx hne S => ?_)
  have R' : Rm (A.under (.builtin "type.__call__" ⟨[.ref 172], []⟩)) 2 := R.make
  refine code_bt (binds := [(nm "self", .ref x), (nm "graph", .none)]) [nm "self", nm "graph"] [some (.ref x), some .none] [] (fun v σ' => v = .none ∧ ∃ nd t3 t4, σ nd = none ∧ x ≠ nd ∧ dx ≠ nd ∧ σ' = upd (upd (upd σ x (IsIn 172 dx)) nd (IsD w [])) dx (IsAt (.ref nd) .none (.int 0 t3) (.int 0 t4)))
    S (by have := R'.depth; omega) hB.lim (fun _ h => nomatch h) (hB.X _ _ rfl) rfl (codeRec_of hB.X rfl) rfl (kp_binds (hB.X.keeps S.base) (fun _ => rfl)) (by decide) (locs rfl) (by decide) rfl rfl rfl ?_ ?_ ?_
  · intro h; repeat' (first | exact Vars.nil | refine Vars.loc ?_ ?_ | (intro u e; cases e; rfl) | (intro u e; cases e))
  · intro env A' L' φ' s' e eG dA S'
    have R'' := R'.deeper dA
    dsimp only [List.map] at S' e ⊢
    have S1 : St B L' [(nm "self", none), (nm "graph", none)] [some (.ref x), some .none] (upd (upd σ x (IsIn 172 dx)) dx (IsRw [])) φ' s₀ s' := by
      have := S'.say (P' := IsRw []) (a := dx) (P := IsED) (by rw [upd_ne (Ne.symm hne), upd_self]) (fun o _ h => ⟨0, h⟩)
      rw [upd_comm hne, upd_upd, upd_comm (Ne.symm hne)] at this
      exact this
    clear S'
    walk_at "m"
    refine newDict_d S1 fun nd s hnd S => ?_
    have hnx : x ≠ nd := (by first | exact ne_sn hnd (((upd_ne hne)).trans upd_self) | exact ne_ns hnd (((upd_ne hne)).trans upd_self) | exact ne_sn (((upd_ne hne)).trans upd_self) hnd | exact ne_ns (((upd_ne hne)).trans upd_self) hnd)
    have hndx : dx ≠ nd := (by first | exact ne_sn hnd upd_self | exact ne_ns hnd upd_self | exact ne_sn upd_self hnd | exact ne_ns upd_self hnd)
    have hn0 : σ nd = none := by rwa [upd_ne (Ne.symm hndx), upd_ne (Ne.symm hnx)] at hnd
    have norm : ∀ P P', upd (upd (upd (upd σ x (IsIn 172 dx)) dx P) nd (IsD w [])) dx P' = upd (upd (upd σ x (IsIn 172 dx)) nd (IsD w [])) dx P' := fun P P' => by rw [upd_comm (Ne.symm hndx), upd_upd, upd_comm hndx]
    walk_at "m"
    refine set_raw hB S (by rw [upd_ne hnx, upd_ne hne, upd_self]) (by rw [upd_ne hndx, upd_self]) rfl rfl (fun _ _ => Nat.le_of_ble_eq_true rfl) fun h1 t1 s S => ?_
    rw [norm] at S
    have hx2 : ∀ P, upd (upd (upd σ x (IsIn 172 dx)) nd (IsD w [])) dx P x = some (IsIn 172 dx) := fun P => by rw [upd_ne hne, upd_ne hnx, upd_self]
    walk_at "m"
    refine set_raw hB S (hx2 _) upd_self rfl rfl (fun _ _ => Nat.le_of_ble_eq_true rfl) fun h2 t2 s S => ?_
    rw [upd_upd] at S
    walk_at "m"
    refine set_raw hB S (hx2 _) upd_self rfl rfl (fun _ _ => Nat.le_of_ble_eq_true rfl) fun h3 t3 s S => ?_
    rw [upd_upd] at S
    walk_at "m"
    refine set_raw hB S (hx2 _) upd_self rfl rfl (fun _ _ => Nat.le_of_ble_eq_true rfl) fun h4 t4 s S => ?_
    rw [upd_upd] at S
    walk_at "m"
    refine wpAny_If ?_
    walk_at "m"
    refine ite_f (by simp) ?_
    walk_at "m"
    refine ⟨_, _, S.say (P' := IsAt _ _ _ _) upd_self fun o _ ⟨n, h⟩ => ⟨_, _, _, _, _, _, _, _, n, h⟩, rfl, nd, _, _, hn0, hnx, hndx, upd_upd⟩
  · rintro v σ' s'' ⟨rfl, nd, t3, t4, h1, h2, h3, rfl⟩ S''; exact ⟨rfl, k x dx nd t3 t4 s'' hx hdx h1 hne h2 h3 S''⟩
end
end
section
open PySem PySem.W PyProof.Rows
theorem neg_v {prog : Program} {w : World} {A : Around} {E : Value → Shared → Prop} {B : Heap} {L : Addr} {N : List (Str × Option Addr)} {l : List (Option Value)} {σ : Own} {φ : Frz} {s₀ s : Shared} {a : Int} {t : Tok} {Q : Value → Shared → Prop} (S : St B L N l σ φ s₀ s) (h : ∀ t s', St B L N l σ φ s₀ s' → Q (.int (-a) t) s') : wpAny (model prog w) A (unaryOp .USub (.int a t)) Q E s := PyProof.Rows.neg_int (h _ _ (S.toks _))
/-- what a column holds: the later neighbours, and what the columns ahead hand up -/
def ColMem (t : Nat → Nat → Bool) (n : Nat) (col : Nat → List Nat) (k upto j : Nat) : Prop := (k < j ∧ j < n ∧ t k j = true) ∨ ∃ i, i < upto ∧ ∃ rest, col i = k :: rest ∧ j ∈ rest
structure IsCol (t : Nat → Nat → Bool) (n : Nat) (col : Nat → List Nat) (k : Nat) : Prop where
  inc : (col k).Pairwise (· < ·)
  mem : ∀ j, j ∈ col k ↔ ColMem t n col k k j
  rng : ∀ j ∈ col k, k < j ∧ j < n
theorem Cols.off {σ : Own} {a b : Addr} {ads : List Addr} {css : List (List Int)} {P : Obj → Prop} (m : Cols σ a ads css) (h1 : b ≠ a) (h2 : b ∉ ads) : Cols (upd σ b P) a ads css :=
  ⟨by rw [upd_ne (Ne.symm h1)]; exact m.top, m.len, fun i c cs hc hcs => by rw [upd_ne (fun q => h2 (by rw [← q]; exact List.mem_of_getElem? hc))]; exact m.col i c cs hc hcs⟩
theorem slice_one (vs : List Value) : (slicePick vs.toArray (some 1) none none).toList = vs.drop 1 := by
  cases vs with
  | nil => rfl
  | cons v r =>
    have := slicePick_from (v :: r).toArray 1 (by simp)
    rw [show (some ((1 : Nat) : Int)) = some (1 : Int) from rfl] at this
    rw [this]
/-- a list at h, a heap of the numbers of P -/
inductive HpAt (σ : Own) (h : Addr) (b : Nat) (P : Nat → Prop) : Prop
  | mk (vs : List Value) (hs : List Nat) (h1 : σ h = some (IsL vs)) (h2 : Ints vs (zi hs)) (h3 : HeapFrom ltV 0 vs) (h4 : hs.length ≤ b) (h5 : ∀ j, j ∈ hs ↔ P j) : HpAt σ h b P
theorem HpAt.off {σ : Own} {h a : Addr} {b : Nat} {P : Nat → Prop} {P' : Obj → Prop} (x : HpAt σ h b P) (hn : h ≠ a) : HpAt (upd σ a P') h b P := by
  obtain ⟨vs, hs, h1, h2, h3, h4, h5⟩ := x
  exact ⟨vs, hs, by rw [upd_ne hn]; exact h1, h2, h3, h4, h5⟩
section
variable {w : World} {B : Heap} {A : Around} {L : Addr} {N : List (Str × Option Addr)} {l : List (Option Value)} {σ : Own} {φ : Frz} {s₀ s : Shared}
inductive CoA (σ : Own) (ta oa ha : Addr) (n : Nat) (ts : Tok) (t : Nat → Nat → Bool) (i : Nat) (l' : List (Option Value)) (σ' : Own) : Prop
  | mk (hads : List Addr) (l5 l6 l7 : Option Value) (h1 : l' = [some (.ref ta), some (.ref oa), some (.int n ts), some (.ref ha), l5, l6, l7, none, none]) (h2 : Ext σ σ') (h3 : σ' ha = some (IsL (hads.map Value.ref))) (h4 : hads.length = i) (h5 : hads.Nodup) (h6 : ha ∉ hads) (h7 : (∀ h ∈ hads, σ h = none)) (h8 : (∀ (m : Nat) (h : Addr), hads[m]? = some h → HpAt σ' h n (fun j => m < j ∧ j < n ∧ t m j = true))) : CoA σ ta oa ha n ts t i l' σ'
inductive CoB (n i : Nat) (t : Nat → Nat → Bool) (σ' : Own) (m : Nat) (ys : List Value) (σ'' : Own) : Prop
  | mk (js : List Nat) (h1 : σ'' = σ') (h2 : Ints ys (zi js)) (h3 : js.length ≤ m) (h4 : ∀ j, j ∈ js ↔ (n - 1 - m < j ∧ j < n ∧ t i j = true)) : CoB n i t σ' m ys σ''
inductive CoC (σ' : Own) (m : Nat) (ys : List Value) (σ'' : Own) : Prop
  | mk (ads : List Addr) (h1 : ys = ads.map Value.ref) (h2 : ads.length = m) (h3 : Ext σ' σ'') (h4 : ∀ c ∈ ads, σ' c = none ∧ σ'' c = some (IsL [])) : CoC σ' m ys σ''
inductive CoD (σ : Own) (ta oa ha ca : Addr) (hads : List Addr) (n : Nat) (ts : Tok) (t : Nat → Nat → Bool) (o : Nat → Nat) (i : Nat) (l' : List (Option Value)) (σ3 : Own) : Prop
  | mk (col : Nat → List Nat) (ads : List Addr) (css : List (List Int)) (l5 l6 l7 l9 : Option Value) (h1 : l' = [some (.ref ta), some (.ref oa), some (.int n ts), some (.ref ha), l5, l6, l7, some (.ref ca), l9]) (h2 : Ext σ σ3) (h3 : σ3 ha = some (IsL (hads.map Value.ref))) (h4 : Cols σ3 ca ads css) (h5 : css.length = n) (h6 : (∀ c ∈ ads, c ∉ hads ∧ c ≠ ha)) (h7 : ca ∉ ads) (h8 : (∀ i', i' < i → IsCol t n col i')) (h9 : (∀ i', i' < i → css[o i']? = some (zi ((col i').map o)))) (h10 : (∀ h ∈ hads, σ3 h ≠ none)) (h11 : (∀ (m : Nat) (h : Addr), i ≤ m → hads[m]? = some h → HpAt σ3 h (n * (i + 1)) (fun j => ColMem t n col m i j))) : CoD σ ta oa ha ca hads n ts t o i l' σ3
inductive CoE (σ3 : Own) (ta oa ha ca cad h0 : Addr) (n k0 : Nat) (ts tk0 : Tok) (l7 : Option Value) (t : Nat → Nat → Bool) (col : Nat → List Nat) (m : Nat) (l' : List (Option Value)) (σ4 : Own) : Prop
  | mk (colu hs : List Nat) (vs cv : List Value) (l6 : Option Value) (h1 : m = hs.length) (h2 : l' = [some (.ref ta), some (.ref oa), some (.int n ts), some (.ref ha), some (.int (k0 : Nat) tk0), l6, l7, some (.ref ca), some (.ref cad)]) (h3 : σ4 = upd (upd σ3 cad (IsL cv)) h0 (IsL vs)) (h4 : Ints cv (zi colu)) (h5 : Ints vs (zi hs)) (h6 : HeapFrom ltV 0 vs) (h7 : colu.length + hs.length ≤ n * (k0 + 1)) (h8 : colu.Pairwise (· < ·)) (h9 : (∀ x ∈ colu, ∀ y ∈ hs, x ≤ y)) (h10 : ∀ j, (j ∈ colu ∨ j ∈ hs) ↔ ColMem t n col k0 k0 j) : CoE σ3 ta oa ha ca cad h0 n k0 ts tk0 l7 t col m l' σ4
inductive CoF (σ3 : Own) (ta oa ha ca cad h0 : Addr) (n k0 : Nat) (ts tk0 : Tok) (l7 : Option Value) (t : Nat → Nat → Bool) (col : Nat → List Nat) (l' : List (Option Value)) (σ4 : Own) : Prop
  | mk (colu : List Nat) (vs cv : List Value) (l6 : Option Value) (h1 : l' = [some (.ref ta), some (.ref oa), some (.int n ts), some (.ref ha), some (.int (k0 : Nat) tk0), l6, l7, some (.ref ca), some (.ref cad)]) (h2 : σ4 = upd (upd σ3 cad (IsL cv)) h0 (IsL vs)) (h3 : Ints cv (zi colu)) (h4 : colu.Pairwise (· < ·)) (h5 : ∀ j, j ∈ colu ↔ ColMem t n col k0 k0 j) : CoF σ3 ta oa ha ca cad h0 n k0 ts tk0 l7 t col l' σ4
inductive CoG (σ4 : Own) (ta oa ha ca cad : Addr) (hads : List Addr) (n k0 : Nat) (ts tk0 : Tok) (l7 : Option Value) (t : Nat → Nat → Bool) (col : Nat → List Nat) (cv : List Value) (colu : List Nat) (sb : Addr) (i : Nat) (l' : List (Option Value)) (σ5 : Own) : Prop
  | mk (l6 : Option Value) (h1 : l' = [some (.ref ta), some (.ref oa), some (.int n ts), some (.ref ha), some (.int (k0 : Nat) tk0), l6, l7, some (.ref ca), some (.ref cad)]) (h2 : sb ∉ hads) (h3 : σ4 sb = none) (h4 : σ5 sb = some (IsL (cv.drop 1))) (h5 : (∀ a P, a ∉ hads → σ4 a = some P → σ5 a = some P)) (h6 : (∀ h ∈ hads, σ5 h ≠ none)) (h7 : (∀ (m : Nat) (h : Addr), k0 + 1 ≤ m → hads[m]? = some h → HpAt σ5 h (n * (k0 + 1) + i) (fun j => ColMem t n col m k0 j ∨ ∃ rest, colu = m :: rest ∧ j ∈ rest.take i))) : CoG σ4 ta oa ha ca cad hads n k0 ts tk0 l7 t col cv colu sb i l' σ5
theorem columns_spec (hB : Base w B) (R : Rm A 4) (S : St B L N l σ φ s₀ s)
  (ta : Addr) (rows : List Addr) (n : Nat) (T : Nat → Nat → Bool) (oa : Addr) (ovs : List Value) (ord : List Nat) (hM : Mat σ ta rows n T) (hov : σ oa = some (IsL ovs)) (hoi : Ints ovs (zi ord)) (hol : ord.length = n) (hon : ∀ p ∈ ord, p < n) (hond : ord.Nodup) (hn2 : n < 100) (Q : Value → Shared → Prop) (E)
  (k : ∀ (σ' : Own) (ca : Addr) (ads : List Addr) (css : List (List Int)) (col : Nat → List Nat) (s' : Shared), Ext σ σ' → σ ca = none → Cols σ' ca ads css → css.length = n → (∀ i, i < n → IsCol (fun i j => T (ord.getD i 0) (ord.getD j 0)) n col i) →
    (∀ i, i < n → css[ord.getD i 0]? = some (zi ((col i).map fun j => ord.getD j 0))) → St B L N l σ' φ s₀ s' → Q (.ref ca) s') :
  wpAny (model PR w) A (call (.ref 191) [.ref ta, .ref oa]) Q E s := by
  refine call_st [(nm "tied", true), (nm "order", true), (nm "size", false), (nm "heaps", false), (nm "k", true), (nm "j", false), (nm "heap", false), (nm "columns", false), (nm "column", false)] [some (.ref ta), some (.ref oa), none, none, none, none, none, none, none]
    [(nm "len", .builtin "len"), (nm "range", .type "range"), (nm "heapify", .ref 42), (nm "heappop", .ref 35), (nm "heappush", .ref 28)]
    (fun v σ' => ∀ s, St B L N l σ' φ s₀ s → Q v s)
    S (by have := R.depth; omega) hB.lim (hB.globs rfl) (hB.X _ _ rfl) rfl (codeRec_of hB.X rfl) rfl rfl rfl rfl rfl (cells_mix rfl) (some_cells rfl) (by decide) rfl (by walk_at "init") ?_ ?_
  · intro env A' L' κ φ' s' hκ e eG dA S'
    have R' := R.deeper dA
    dsimp only [List.map] at S' e ⊢
    dsimp only [cond] at S' e ⊢
    have hκ1 : κ (nm "tied") ≠ none := hκ (nm "tied", true) (by simp) rfl
    have hκ2 : κ (nm "order") ≠ none := hκ (nm "order", true) (by simp) rfl
    have hκ3 : κ (nm "k") ≠ none := hκ (nm "k", true) (by simp) rfl
    have hovl : ovs.length = n := by rw [hoi.1]; simp [hol]
    obtain ⟨o, ho⟩ : ∃ o : Nat → Nat, (fun i => ord.getD i 0) = o := ⟨_, rfl⟩
    have hog : ∀ i, ord.getD i 0 = o i := fun i => by rw [← ho]
    have ho1 : ∀ i, i < n → ord[i]? = some (o i) := fun i hi => by rw [← hog, List.getD_eq_getElem?_getD, List.getElem?_eq_getElem (by (clear hovl; omega))]; rfl
    have ho2 : ∀ i, i < n → o i < n := fun i hi => hon _ (List.mem_of_getElem? (ho1 i hi))
    have ho3 : ∀ i, i < n → ∃ tk : Tok, ovs[i]? = some (.int (o i : Nat) tk) := fun i hi => hoi.get (by simp [zi, ho1 i hi])
    obtain ⟨t, ht⟩ : ∃ t : Nat → Nat → Bool, (fun i j => T (o i) (o j)) = t := ⟨_, rfl⟩
    have htt : ∀ i j, T (o i) (o j) = t i j := fun i j => by rw [← ht]
    walk_at "m"
    refine len_l S' hov (by (clear hol; omega)) fun ts s S => ?_
    rw [hovl]
    walk_at "m"
    refine newList_l S (by simp) fun ha s hha S => ?_
    walk_at "m"
    refine for_j n (fun i v => ∃ t : Tok, v = .int (i : Nat) t) needN (CoA σ ta oa ha n ts t) S ?_ (fun _ _ _ _ => trivial) ?_ ?_ (by with_unfolding_all (intro _; rfl))
    · walk_at "m"
      refine range_1 S fun r s hr S => ?_
      walk_at "m"
      exact iter_n R'.handled S hr (by (clear hol hovl; omega)) fun it s rd => ⟨_, _, rd, [], none, none, none, rfl, Ext.rfl.upd hha, upd_self, rfl, .nil, by simp, by simp, by simp⟩
    · rintro i v l' σ' φ'' s hi ⟨ti, rfl⟩ ⟨hads, l5, l6, l7, rfl, hext, hhv, hlen, hnd, hoff, hnone, hheaps⟩ S
      walk_at "m"
      refine comp_set_j (n - 1 - i) (fun m v => ∃ t : Tok, v = .int (((n : Int) - 1) - (m : Nat)) t) needN (CoB n i t σ') [nm "j"] [(nm "k", .int (i : Nat) ti), (nm "order", .ref oa), (nm "tied", .ref ta)] [] []
        (fun D => [some (.ref ta), some (.ref oa), some (.int n ts), some (.ref ha), some (.int (i : Nat) ti), l6, some (.ref D), none, none])
        S e (envF_nil e) (compOk_of rfl eG (fun _ h => nomatch h) ?_) ?_ (fun _ _ _ _ => trivial) (by rw [sizeLine_eq]; (clear hol hovl hi hlen; omega)) ?_ ?_ (fun D => by walk_at "sv") ?_ (swaps_yes e (by walk_at "mm") rfl rfl) (fun _ _ => rfl) (by with_unfolding_all (intro _; rfl))
      · intro q hq
        simp at hq
        rcases hq with rfl | rfl | rfl
        · exact .inl ⟨_, hκ3, by walk_at "gv"⟩
        · exact .inl ⟨_, hκ2, by walk_at "gv"⟩
        · exact .inl ⟨_, hκ1, by walk_at "gv"⟩
      · walk_at "m"
        refine range_3 S (by unfold fitsR; (clear hol hovl hlen; omega)) (by unfold fitsR; (clear hol hovl hlen; omega)) (.inr rfl) fun r s hr S => ?_
        walk_at "m"
        exact iter_dn R'.handled S hr (by unfold fitsR; (clear hol hovl hlen; omega)) (by unfold fitsR; (clear hol hovl hlen; omega)) (by (clear hovl hlen hol; omega)) fun it s rd => ⟨_, rd, [], rfl, Ints.nil, by simp, fun j => by simp; (clear hol hn2 hovl hlen; omega)⟩
      · rintro m ys σ'' ⟨js, _, h1, h2, _⟩; rw [h1.1]; simpa using h2
      · rintro m v ys σ'' cenv C φ3 s hm ⟨tj, rfl⟩ ⟨js, rfl, hys, hjl, hjm⟩ e' eF' eG' S
        dsimp only [List.map] at S e' ⊢
        have ej : ((n : Int) - 1) - (m : Nat) = ((n - 1 - m : Nat) : Int) := by (clear hovl hlen hjl hol; omega)
        rw [ej]
        walk_at "m"
        have hM' := hM.ext hext
        obtain ⟨tk1, hk1⟩ := ho3 i hi
        refine item_n S (hext _ _ hov) (by (clear hol ej hjl hm hlen; omega)) hk1 ?_
        walk_at "m"
        obtain ⟨rp, hrp⟩ : ∃ r, rows[o i]? = some r := ⟨rows[o i]'(by rw [hM.len]; exact ho2 i hi), List.getElem?_eq_getElem _⟩
        refine item_n S hM'.top (by simp [hM.len]; (clear hol hovl ej hjl hm hlen; omega)) (by rw [List.getElem?_map, hrp]; rfl) ?_
        walk_at "m"
        obtain ⟨tk2, hk2⟩ := ho3 (n - 1 - m) (by (clear hovl hjl hm hlen hi hol; omega))
        refine item_n S (hext _ _ hov) (by (clear hol ej hjl hm hlen; omega)) hk2 ?_
        walk_at "m"
        refine item_n S (hM'.row _ rp hrp) (by rw [rowV_length]; (clear hol hovl ej hjl hm hlen; omega)) (rowV_get (ho2 _ (by (clear hovl hjl hm hlen hi hol; omega)))) ?_
        walk_at "m"
        rw [htt]
        cases hT : t i (n - 1 - m) with
        | false =>
          refine ⟨_, _, ⟨js, rfl, hys, by (clear ej hm hlen hi hovl hn2 hol; omega), fun j => ?_⟩, S⟩
          rw [hjm]
          constructor
          · rintro ⟨h1, h2, h3⟩; exact ⟨by (clear hovl hjl hm hlen hi hol; omega), h2, h3⟩
          · rintro ⟨h1, h2, h3⟩
            refine ⟨?_, h2, h3⟩
            have : j ≠ n - 1 - m := fun c => by rw [c, hT] at h3; cases h3
            (clear hovl hjl hm hlen hi hol; omega)
        | true =>
          walk_at "m"
          refine ⟨_, _, ⟨js ++ [n - 1 - m], rfl, ?_, by simp; (clear ej hm hlen hi hovl hn2 hol; omega), fun j => ?_⟩, S⟩
          · have := hys.snoc ((n - 1 - m : Nat) : Int) tj
            simpa [zi] using this
          · rw [List.mem_append, hjm]
            constructor
            · rintro (⟨h1, h2, h3⟩ | h)
              · exact ⟨by (clear hovl hjl hm hlen hi hol; omega), h2, h3⟩
              · simp at h; subst h; exact ⟨by (clear hovl hlen hjl hol; omega), by (clear hovl hjl hm hlen hi hol; omega), hT⟩
            · rintro ⟨h1, h2, h3⟩
              by_cases c : j = n - 1 - m
              · right; simp [c]
              · left; exact ⟨by (clear hovl hjl hm hlen hi hol; omega), h2, h3⟩
      · rintro D ys σ'' s ⟨js, rfl, hys, hjl, hjm⟩ hD S
        walk_at "m"
        refine ih_heapify hB R' S upd_self hys (by (clear hol hovl hi hlen; omega)) fun vs' hs' s h1 h2 h3 S => ?_
        rw [upd_upd] at S
        refine ⟨rfl, ?_⟩
        walk_at "m"
        have hDha : ha ≠ D := (by first | exact ne_sn hhv hD | exact ne_ns hhv hD | exact ne_sn hD hhv | exact ne_ns hD hhv)
        refine method_l S (by rw [upd_ne hDha]; exact hhv) PySem.F.slot_list_append PySem.F.type_list_append ?_
        walk_at "m"
        refine append_l S (by rw [upd_ne hDha]; exact hhv) (by rw [sizeLine_eq]; simp; (clear hol hovl hjl; omega)) fun s S => ?_
        refine ⟨rfl, ?_⟩
        walk_at "m"
        have hDn : D ∉ hads := fun c => by
          obtain ⟨m, hm⟩ := List.getElem?_of_mem c
          obtain ⟨vs, hs, h, _⟩ := hheaps m D hm
          rw [hD] at h; cases h
        refine ⟨_, _, ⟨hads ++ [D], _, _, _, rfl, (hext.upd (hext.none hD)).upd hha, by rw [upd_self]; simp, by simp [hlen], ?_, ?_, ?_, ?_⟩, S⟩
        · exact List.nodup_append.mpr ⟨hnd, by simp, fun x hx y hy => by simp at hy; subst hy; exact fun c => hDn (c ▸ hx)⟩
        · simp [hoff, hDha]
        · intro h hh
          rcases List.mem_append.mp hh with hh | hh
          · exact hnone h hh
          · simp at hh; subst hh; exact hext.none hD
        · intro m h hm
          by_cases hml : m < hads.length
          · rw [List.getElem?_append_left hml] at hm
            have hmem := List.mem_of_getElem? hm
            exact ((hheaps m h hm).off fun c => hDn (by rw [← c]; exact hmem)).off fun c => hoff (by rw [← c]; exact hmem)
          · rw [List.getElem?_append_right (by (clear hjl hlen hi hovl hn2 hol; omega))] at hm
            have : m - hads.length = 0 := by
              cases q : m - hads.length with
              | zero => rfl
              | succ z => rw [q] at hm; simp at hm
            rw [this] at hm; simp at hm; subst hm
            have hmi : m = i := by (clear hjl hi hovl hn2 hol; omega)
            subst hmi
            refine ⟨vs', hs', by rw [upd_ne (Ne.symm hDha), upd_self], h1, h2, by rw [h3.length_eq]; (clear hi hovl hlen this hml hn2 hol; omega), fun j => ?_⟩
            rw [h3.mem_iff, hjm]
            constructor
            · rintro ⟨a1, a2, a3⟩; exact ⟨by (clear hol hovl hlen this hml; omega), a2, a3⟩
            · rintro ⟨a1, a2, a3⟩; exact ⟨by (clear hovl hlen this hml hol; omega), a2, a3⟩
    · rintro l' σ' s ⟨hads, l5, l6, l7, rfl, hext, hhv, hlen, hnd, hoff, hnone, hheaps⟩ S
      walk_at "m"
      refine comp_set_j n (fun i v => ∃ t : Tok, v = .int (i : Nat) t) needN (CoC σ') [nm "k"] [] [] []
        (fun D => [some (.ref ta), some (.ref oa), some (.int n ts), some (.ref ha), l5, l6, l7, some (.ref D), none])
        S e (envF_nil e) (compOk_of rfl eG (fun _ h => nomatch h) (fun _ h => nomatch h)) ?_ (fun _ _ _ _ => trivial) (by rw [sizeLine_eq]; (clear hol hovl hlen; omega)) ?_ ?_ (fun D => by walk_at "sv") ?_ (swaps_yes e (by walk_at "mm") rfl rfl) (fun _ _ => rfl) (by with_unfolding_all (intro _; rfl))
      · walk_at "m"
        refine range_1 S fun r s hr S => ?_
        walk_at "m"
        exact iter_n R'.handled S hr (by (clear hol hovl hlen; omega)) fun it s rd => ⟨_, rd, [], rfl, rfl, Ext.rfl, by simp⟩
      · rintro m ys σ'' ⟨ads, rfl, h, _⟩; simp; (clear hlen hovl hn2 hol; omega)
      · rintro m v ys σ'' cenv C φ3 s hm ⟨tj, rfl⟩ ⟨ads, rfl, hal, hx, hads'⟩ e' eF' eG' S
        dsimp only [List.map] at S e' ⊢
        walk_at "m"
        walk_at "m"
        refine newList_l S (by simp) fun D s hD S => ?_
        walk_at "m"
        refine ⟨_, _, ⟨ads ++ [D], by simp, by simp [hal], hx.upd (hx.none hD), fun c hc => ?_⟩, S⟩
        rcases List.mem_append.mp hc with hc | hc
        · have hne : c ≠ D := (by first | exact ne_sn ((hads' c hc).2) hD | exact ne_ns ((hads' c hc).2) hD | exact ne_sn hD ((hads' c hc).2) | exact ne_ns hD ((hads' c hc).2))
          exact ⟨(hads' c hc).1, by rw [upd_ne hne]; exact (hads' c hc).2⟩
        · simp at hc; subst hc; exact ⟨hx.none hD, upd_self⟩
      · rintro ca ys σ2 s ⟨ads, rfl, hal, hx, hads'⟩ hca S
        have hext2 : Ext σ (upd σ2 ca (IsL (ads.map Value.ref))) := (hext.trans hx).upd ((hext.trans hx).none hca)
        have hcah : ca ∉ hads := fun c => by
          obtain ⟨m, hm⟩ := List.getElem?_of_mem c
          obtain ⟨vs, hs, h, _⟩ := hheaps m ca hm
          rw [hx _ _ h] at hca; cases hca
        have hcaha : ca ≠ ha := (by first | exact ne_sn hca (hx _ _ hhv) | exact ne_ns hca (hx _ _ hhv) | exact ne_sn (hx _ _ hhv) hca | exact ne_ns (hx _ _ hhv) hca)
        have hcaads : ca ∉ ads := fun c => by rw [(hads' ca c).2] at hca; cases hca
        have hadh : ∀ c ∈ ads, c ∉ hads ∧ c ≠ ha := fun c hc => ⟨(fun q => by
          obtain ⟨m, hm⟩ := List.getElem?_of_mem q
          obtain ⟨vs, hs, h, _⟩ := hheaps m c hm
          rw [(hads' c hc).1] at h; cases h), ((by first | exact ne_sn hhv ((hads' c hc).1) | exact ne_ns hhv ((hads' c hc).1) | exact ne_sn ((hads' c hc).1) hhv | exact ne_ns ((hads' c hc).1) hhv))⟩
        have hcoln : σ ca = none := (hext.trans hx).none hca
        walk_at "m"
        refine for_j n (fun i v => ∃ t : Tok, v = .int (i : Nat) t) needN (CoD σ ta oa ha ca hads n ts t o) S ?_ (fun _ _ _ _ => trivial) ?_ ?_ (by with_unfolding_all (intro _; rfl))
        · walk_at "m"
          refine range_1 S fun r s hr S => ?_
          walk_at "m"
          refine iter_n R'.handled S hr (by (clear hol hovl hlen hal; omega)) fun it s rd => ⟨_, _, rd, fun _ => [], ads, List.replicate n [], _, _, _, _, rfl, hext2, by rw [upd_ne (Ne.symm hcaha)]; exact hx _ _ hhv, ⟨upd_self, by simp [hal], fun i c cs h1 h2 => ?_⟩, by simp, hadh, hcaads, fun _ h => absurd h (Nat.not_lt_zero _), fun _ h => absurd h (Nat.not_lt_zero _), fun h hh => ?_, fun m h _ hm => ?_⟩
          · have hc := List.mem_of_getElem? h1
            have : cs = [] := by
              have := List.mem_of_getElem? h2
              exact (List.eq_of_mem_replicate this)
            subst this
            exact ⟨[], by rw [upd_ne (fun q => hcaads (by rw [← q]; exact hc))]; exact (hads' c hc).2, Ints.nil⟩
          · obtain ⟨m, hm⟩ := List.getElem?_of_mem hh
            obtain ⟨vs, hs, h1, _⟩ := hheaps m h hm
            rw [upd_ne (fun q => hcah (by rw [← q]; exact hh)), hx _ _ h1]; exact fun q => by cases q
          · obtain ⟨vs, hs, h1, h2, h3, h4, h5⟩ := hheaps m h hm
            refine ⟨vs, hs, by rw [upd_ne (fun q => hcah (by rw [← q]; exact List.mem_of_getElem? hm))]; exact hx _ _ h1, h2, h3, by (clear hlen hal hn2 hol; omega), fun j => ?_⟩
            rw [h5]
            unfold ColMem
            simp
        · rintro k0 v l' σ3 φ'' s hk ⟨tk0, rfl⟩ ⟨col, ads, css, l5, l6, l7, l9, rfl, hext3, hhv3, hcols, hcl, hadh3, hcaads3, hcols1, hcss1, hall3, hheaps3⟩ S
          walk_at "m"
          refine newList_l S (by simp) fun cad s hcad S => ?_
          walk_at "m"
          obtain ⟨h0, hh0⟩ : ∃ h, hads[k0]? = some h := ⟨hads[k0]'(by (clear hovl hal hcl hol; omega)), List.getElem?_eq_getElem _⟩
          have hh0m := List.mem_of_getElem? hh0
          obtain ⟨vs0, hs0, hv0, hi0, hheap0, hlen0, hmem0⟩ := hheaps3 k0 h0 (Nat.le_refl _) hh0
          have hbnd : n * (k0 + 1) ≤ 9801 := Nat.mul_le_mul (by (clear hol hovl hlen hal hcl hlen0; omega) : n ≤ 99) (by (clear hol hovl hlen hal hcl hlen0; omega) : k0 + 1 ≤ 99)
          have hcad_h : ∀ h ∈ hads, k0 ≤ hads.idxOf h → cad ≠ h := fun h hh hle c => by
            obtain ⟨vs, hs, q, _⟩ := hheaps3 (hads.idxOf h) h hle (by rw [List.getElem?_eq_getElem (List.idxOf_lt_length_iff.mpr hh)]; simp)
            rw [← c, hcad] at q; cases q
          have hc0 : cad ≠ h0 := (by first | exact ne_sn hcad hv0 | exact ne_ns hcad hv0 | exact ne_sn hv0 hcad | exact ne_ns hv0 hcad)
          have hcha : cad ≠ ha := (by first | exact ne_sn hcad hhv3 | exact ne_ns hcad hhv3 | exact ne_sn hhv3 hcad | exact ne_ns hhv3 hcad)
          have hcca : cad ≠ ca := (by first | exact ne_sn hcad hcols.top | exact ne_ns hcad hcols.top | exact ne_sn hcols.top hcad | exact ne_ns hcols.top hcad)
          have hcado : cad ≠ oa := (by first | exact ne_sn hcad (hext3 _ _ hov) | exact ne_ns hcad (hext3 _ _ hov) | exact ne_sn (hext3 _ _ hov) hcad | exact ne_ns (hext3 _ _ hov) hcad)
          have h0ha : h0 ≠ ha := fun c => hoff (by rw [← c]; exact hh0m)
          have h0ca : h0 ≠ ca := fun c => hcah (by rw [← c]; exact hh0m)
          have hswap : ∀ {P P' Q' : Obj → Prop}, upd (upd (upd σ3 cad P) h0 Q') cad P' = upd (upd σ3 cad P') h0 Q' := fun {P P' Q'} => by rw [upd_comm (Ne.symm hc0), upd_upd]
          refine while_q (CoE σ3 ta oa ha ca cad h0 n k0 ts tk0 l7 t col)
            (CoF σ3 ta oa ha ca cad h0 n k0 ts tk0 l7 t col)
            hs0.length (S.say (P' := IsL vs0) (by rw [upd_ne (Ne.symm hc0)]; exact hv0) (fun _ _ h => h)) ⟨[], hs0, vs0, [], _, rfl, rfl, rfl, Ints.nil, hi0, hheap0, by simpa using hlen0, .nil, by simp, fun j => by simpa using hmem0 j⟩ ?_ ?_
          · rintro m l' σ4 s ⟨colu, hs, vs, cv, l6, rfl, rfl, rfl, hcv, hvs, hhp, hcnt, hinc, hsep, hset⟩ S
            have hat_ha : upd (upd σ3 cad (IsL cv)) h0 (IsL vs) ha = some (IsL (hads.map Value.ref)) := by rw [upd_ne (Ne.symm h0ha), upd_ne (Ne.symm hcha)]; exact hhv3
            have hat_cad : upd (upd σ3 cad (IsL cv)) h0 (IsL vs) cad = some (IsL cv) := by rw [upd_ne hc0, upd_self]
            walk_at "m"
            refine item_n S hat_ha (by simp; (clear hol hovl hal hcl hcnt hbnd hlen0; omega)) (by rw [List.getElem?_map, hh0]; rfl) ?_
            walk_at "m"
            refine newList_l S (by simp) fun e1 s he1 S => ?_
            walk_at "m"
            have h0e : h0 ≠ e1 := (by first | exact ne_sn he1 upd_self | exact ne_ns he1 upd_self | exact ne_sn upd_self he1 | exact ne_ns upd_self he1)
            refine ne_i (R'.less (Nat.zero_le _)) S (by rw [upd_ne h0e, upd_self]) hvs upd_self Ints.nil ?_
            walk_at "m"
            replace S := S.forget (σ' := upd (upd σ3 cad (IsL cv)) h0 (IsL vs)) fun a P q => upd_none he1 q
            cases hs with
            | nil =>
              refine ite_f (by simp [zi]) ?_
              exact ⟨_, _, ⟨colu, vs, cv, _, rfl, rfl, hcv, hinc, fun j => by simpa using hset j⟩, S⟩
            | cons y0 hs1 =>
              refine ite_t (by simp [zi]) ?_
              walk_at "m"
              refine item_n S hat_ha (by simp; (clear hol hovl hal hcl hcnt hbnd hlen0; omega)) (by rw [List.getElem?_map, hh0]; rfl) ?_
              walk_at "m"
              refine ih_pop hB R' S upd_self hvs hhp (by (clear hlen0 hcl hk hal hlen hovl hn2 hol; omega)) (by simp) fun j tj vs' hs' s g1 g2 g3 g4 S => ?_
              rw [upd_upd] at S
              have g5 : hs'.length + 1 = (y0 :: hs1).length := by have := g3.length_eq; simpa using this
              have g6 : j ∈ y0 :: hs1 := g3.mem_iff.mp (.head _)
              have g7 : ∀ x, x ∈ hs' → x ∈ y0 :: hs1 := fun x hx => g3.mem_iff.mp (.tail _ hx)
              have hat_cad' : upd (upd σ3 cad (IsL cv)) h0 (IsL vs') cad = some (IsL cv) := by rw [upd_ne hc0, upd_self]
              walk_at "m"
              refine wpAny_If ?_
              walk_at "m"
              refine notin_i S hat_cad' hcv ?_
              walk_at "m"
              by_cases hin : j ∈ colu
              · have : ((j : Int) ∈ zi colu) := mem_zi.mpr hin
                refine ite_f (by rw [decide_eq_true this]; exact Bool.false_ne_true) ?_
                walk_at "m"
                refine ⟨hs'.length, _, _, by (clear hcnt hbnd hlen0 hcl hk hal hlen hovl hn2 hol; omega), ⟨colu, hs', vs', cv, _, rfl, rfl, rfl, hcv, g1, g2, by (clear hlen0 hcl hk hal hlen hovl hn2 hol; omega), hinc, fun x hx y hy => hsep x hx y (g7 y hy), fun z => ?_⟩, S⟩
                rw [← hset z]
                constructor
                · rintro (h | h)
                  · exact .inl h
                  · exact .inr (g7 z h)
                · rintro (h | h)
                  · exact .inl h
                  · rcases List.mem_cons.mp (g3.mem_iff.mpr h) with c | c
                    · exact .inl (c ▸ hin)
                    · exact .inr c
              · have : ¬ ((j : Int) ∈ zi colu) := fun h => hin (mem_zi.mp h)
                refine ite_t (by rw [decide_eq_false this]; rfl) ?_
                walk_at "m"
                refine method_l S hat_cad' PySem.F.slot_list_append PySem.F.type_list_append ?_
                walk_at "m"
                have hcvl : cv.length = colu.length := by rw [hcv.1]; simp
                refine append_l S hat_cad' (by rw [sizeLine_eq]; (clear g5 hlen0 hcl hk hal hlen hovl hn2 hol; omega)) fun s S => ?_
                rw [hswap] at S
                refine ⟨rfl, ?_⟩
                walk_at "m"
                refine ⟨hs'.length, _, _, by (clear hcvl hcnt hbnd hlen0 hcl hk hal hlen hovl hn2 hol; omega), ⟨colu ++ [j], hs', vs', cv ++ [.int j tj], _, rfl, rfl, rfl, ?_, g1, g2, by simp at hcnt g5 ⊢; (clear hcvl hlen0 hcl hk hal hlen hovl hn2 hol; omega), ?_, ?_, fun z => ?_⟩, S⟩
                · have := hcv.snoc (j : Int) tj; simpa [zi] using this
                · refine List.pairwise_append.mpr ⟨hinc, by simp, fun x hx y hy => ?_⟩
                  simp at hy; subst hy
                  have := hsep x hx y g6
                  have : x ≠ y := fun c => hin (c ▸ hx)
                  (clear hcvl g5 hcnt hbnd hlen0 hcl hk hal hlen hovl hn2 hol; omega)
                · intro x hx y hy
                  rcases List.mem_append.mp hx with h | h
                  · exact hsep x h y (g7 y hy)
                  · simp at h; subst h; exact g4 y (g7 y hy)
                · rw [← hset z, List.mem_append]
                  constructor
                  · rintro ((h | h) | h)
                    · exact .inl h
                    · simp at h; subst h; exact .inr g6
                    · exact .inr (g7 z h)
                  · rintro (h | h)
                    · exact .inl (.inl h)
                    · rcases List.mem_cons.mp (g3.mem_iff.mpr h) with c | c
                      · exact .inl (.inr (by simp [c]))
                      · exact .inr c
          · rintro l' σ4 s ⟨colu, vs, cv, l6, rfl, rfl, hcv, hinc, hset⟩ S
            have hcvl : cv.length = colu.length := by rw [hcv.1]; simp
            have hrng : ∀ j ∈ colu, k0 < j ∧ j < n := fun j hj => by
              rcases (hset j).mp hj with ⟨a1, a2, _⟩ | ⟨i, hi, rest, hce, hjr⟩
              · exact ⟨a1, a2⟩
              · have hI := hcols1 i hi
                have hp := hI.inc
                rw [hce] at hp
                exact ⟨(List.pairwise_cons.mp hp).1 j hjr, (hI.rng j (by rw [hce]; exact .tail _ hjr)).2⟩
            have hcll : colu.length ≤ n := nodup_lt (hinc.imp fun h => Nat.ne_of_lt h) fun x hx => (hrng x hx).2
            have hat_cad : upd (upd σ3 cad (IsL cv)) h0 (IsL vs) cad = some (IsL cv) := by rw [upd_ne hc0, upd_self]
            have hat_ha : upd (upd σ3 cad (IsL cv)) h0 (IsL vs) ha = some (IsL (hads.map Value.ref)) := by rw [upd_ne (Ne.symm h0ha), upd_ne (Ne.symm hcha)]; exact hhv3
            have hext4 : Ext σ (upd (upd σ3 cad (IsL cv)) h0 (IsL vs)) := (hext3.upd (hext3.none hcad)).upd (hnone h0 hh0m)
            have hcadh : cad ∉ hads := fun c => hall3 cad c hcad
            walk_at "m"
            obtain ⟨σ4, hσ4, S4, hat_cad, hat_ha, hext4⟩ : ∃ σ4, upd (upd σ3 cad (IsL cv)) h0 (IsL vs) = σ4 ∧ St B L' _ _ σ4 _ s₀ _ ∧ σ4 cad = some (IsL cv) ∧ σ4 ha = some (IsL (hads.map Value.ref)) ∧ Ext σ σ4 := ⟨_, rfl, S, hat_cad, hat_ha, hext4⟩
            clear S
            have S := S4
            have h4o : ∀ a, a ≠ cad → a ≠ h0 → σ4 a = σ3 a := fun a h1 h2 => by rw [← hσ4, upd_ne h2, upd_ne h1]
            have h4all : ∀ h ∈ hads, σ4 h ≠ none := fun h hh => by
              by_cases q : h = h0
              · rw [← hσ4, q, upd_self]; exact fun q => by cases q
              · rw [h4o h (fun c => hcadh (by rw [← c]; exact hh)) q]; exact hall3 h hh
            refine for_jx (τ := Addr) (cv.drop 1).length (fun i v => (cv.drop 1)[i]? = some v) (fun sb => needL sb (cv.drop 1)) (CoG σ4 ta oa ha ca cad hads n k0 ts tk0 l7 t col cv colu) S ?_ (fun sb i l' σ5 ⟨_, _, _, _, h, _, _, _⟩ => h) ?_ ?_ (by with_unfolding_all (intro _; rfl))
            · walk_at "m"
              intro sl s hsl S
              refine cut_l S hsl hat_cad (.int 1 _) .none .none (by intro c; cases c) (by rw [sizeLine_eq]; (clear hol hovl hlen hal hcl hbnd hlen0; omega)) (fun sb s hsb S => ?_) (by with_unfolding_all rfl)
              rw [slice_one] at S
              walk_at "m"
              refine iter_list R'.handled S upd_self fun it s rd => ⟨sb, _, _, rd, _, rfl, fun c => h4all sb c hsb, hsb, upd_self, fun a P _ q => upd_none hsb q, fun h hh => ?_, fun m h hm hmh => ?_⟩
              · rw [upd_ne (fun q => h4all h hh (by rw [q]; exact hsb))]; exact h4all h hh
              · have hhm := List.mem_of_getElem? hmh
                have hne0 : h ≠ h0 := fun q => by
                  obtain ⟨p1, p2⟩ := List.getElem?_eq_some_iff.mp hmh
                  obtain ⟨p3, p4⟩ := List.getElem?_eq_some_iff.mp hh0
                  have := (List.getElem_inj hnd).mp (p2.trans (q.trans p4.symm))
                  (clear hcll hcvl hbnd hlen0 hcl hk hal hlen hovl hn2 hol; omega)
                obtain ⟨vs1, hs1, q1, q2, q3, q4, q5⟩ := hheaps3 m h (by (clear hcll hcvl hbnd hlen0 hcl hk hal hlen hovl hn2 hol; omega)) hmh
                refine ⟨vs1, hs1, ?_, q2, q3, by (clear hm hcll hcvl hlen0 hcl hk hal hlen hovl hn2 hol; omega), fun j => ?_⟩
                · rw [upd_ne (fun q => h4all h hhm (by rw [q]; exact hsb)), h4o h (fun c => hcadh (by rw [← c]; exact hhm)) hne0]; exact q1
                · rw [q5]; simp
            · rintro sb i v l' σ5 φ3 s hi hP ⟨l6', rfl, hsbh, hsb4, hsb5, hkeep, hall5, hheaps5⟩ S
              have hclen : 1 < colu.length := by simp at hi; (clear hbnd hlen0 hcl hk hal hlen hovl hn2 hol; omega)
              obtain ⟨c0, rest, rfl⟩ : ∃ c0 rest, colu = c0 :: rest := by
                cases colu with
                | nil => simp at hclen
                | cons c r => exact ⟨c, r, rfl⟩
              have hc0n := hrng c0 (.head _)
              obtain ⟨jv, tv, hjv, rfl⟩ := (hcv.drop 1).at hP
              obtain ⟨j0, hj0, rfl⟩ : ∃ j0 : Nat, rest[i]? = some j0 ∧ (j0 : Int) = jv := by
                simp [zi] at hjv
                obtain ⟨j0, e1, e2⟩ := hjv
                exact ⟨j0, e1, e2⟩
              obtain ⟨hp, hhp⟩ : ∃ h, hads[c0]? = some h := ⟨hads[c0]'(by (clear hovl hal hcl hclen hcll hcvl hi hbnd hlen0 hn2 hol; omega)), List.getElem?_eq_getElem _⟩
              have hhpm := List.mem_of_getElem? hhp
              obtain ⟨vs1, hs1, q1, q2, q3, q4, q5⟩ := hheaps5 c0 hp (by (clear hclen hcll hcvl hi hbnd hlen0 hcl hal hlen hovl hol; omega)) hhp
              walk_at "m"
              obtain ⟨tc, htc⟩ := hcv.get (i := 0) (k := (c0 : Int)) rfl
              refine item_n (k := 0) S (hkeep _ _ hcadh hat_cad) (by (clear hol hovl hlen hal hcl q4 hi hbnd hlen0; omega)) htc ?_
              walk_at "m"
              refine item_n S (hkeep _ _ hoff hat_ha) (by simp; (clear hol hovl hal hcl q4 hclen hcll hcvl hi hbnd hlen0; omega)) (by rw [List.getElem?_map, hhp]; rfl) ?_
              walk_at "m"
              have hil : i < n := by simp at hi; (clear hlen hal hcl hclen q4 hc0n hbnd hlen0 hk hn2 hol; omega)
              refine ih_push hB (R'.less (by (clear hil q4 hc0n hclen hcll hcvl hi hbnd hlen0 hcl hk hal hlen hovl hol; omega))) S q1 q2 q3 (by (clear hol hovl hlen hal hcl hc0n hclen hcll hcvl hi hlen0; omega)) fun vs' hs' s g1 g2 g3 S => ?_
              refine ⟨rfl, ?_⟩
              walk_at "m"
              refine ⟨_, _, ⟨_, rfl, hsbh, hsb4, ?_, fun a P ha h4 => ?_, fun h hh => ?_, fun m h hm hmh => ?_⟩, S⟩
              · rw [upd_ne (fun q => hsbh (by rw [q]; exact hhpm))]; exact hsb5
              · rw [upd_ne (fun q => ha (by rw [q]; exact hhpm))]; exact hkeep a P ha h4
              · by_cases q : h = hp
                · rw [q, upd_self]; exact fun q => by cases q
                · rw [upd_ne q]; exact hall5 h hh
              · by_cases q : h = hp
                · subst q
                  have hmc : m = c0 := by
                    obtain ⟨p1, p2⟩ := List.getElem?_eq_some_iff.mp hmh
                    obtain ⟨p3, p4⟩ := List.getElem?_eq_some_iff.mp hhp
                    exact (List.getElem_inj hnd).mp (p2.trans p4.symm)
                  subst hmc
                  refine ⟨vs', hs', upd_self, g1, g2, by have := g3.length_eq; simp at this; (clear hc0n hclen hcll hcvl hm hi hlen0 hcl hk hal hlen hovl hn2 hol; omega), fun j => ?_⟩
                  rw [g3.mem_iff, List.mem_cons, q5]
                  have htake : rest.take (i + 1) = rest.take i ++ [j0] := by rw [List.take_succ, hj0]; rfl
                  constructor
                  · rintro (h | h | ⟨r, e, h⟩)
                    · exact .inr ⟨rest, rfl, by rw [htake]; simp [h]⟩
                    · exact .inl h
                    · cases e; exact .inr ⟨rest, rfl, by rw [htake]; simp [h]⟩
                  · rintro (h | ⟨r, e, h⟩)
                    · exact .inr (.inl h)
                    · cases e
                      rw [htake] at h
                      rcases List.mem_append.mp h with h | h
                      · exact .inr (.inr ⟨rest, rfl, h⟩)
                      · simp at h; exact .inl h
                · obtain ⟨vs2, hs2, u1, u2, u3, u4, u5⟩ := hheaps5 m h hm hmh
                  refine ⟨vs2, hs2, by rw [upd_ne q]; exact u1, u2, u3, by (clear hm hil q4 hc0n hclen hcll hcvl hi hlen0 hcl hk hal hlen hovl hn2 hol; omega), fun j => ?_⟩
                  rw [u5]
                  have hmc : m ≠ c0 := fun c => q (by rw [c, hhp] at hmh; cases hmh; rfl)
                  constructor
                  · rintro (h | ⟨r, e, h⟩)
                    · exact .inl h
                    · cases e; exact absurd rfl hmc
                  · rintro (h | ⟨r, e, h⟩)
                    · exact .inl h
                    · cases e; exact absurd rfl hmc
            · rintro sb l' σ5 s ⟨l6', rfl, hsbh, hsb4, hsb5, hkeep, hall5, hheaps5⟩ S
              walk_at "m"
              have hext5 : Ext σ σ5 := fun a P q => hkeep a P (fun c => by rw [hnone a c] at q; cases q) (hext4 a P q)
              have hca4 : σ4 ca = some (IsL (ads.map Value.ref)) := by rw [h4o ca (Ne.symm hcca) (Ne.symm h0ca)]; exact hcols.top
              have hca5 := hkeep _ _ hcah hca4
              refine comp_j cv.length (fun i v => cv[i]? = some v) (needL cad cv) (fun i ys σ6 => σ6 = σ5 ∧ Ints ys (zi ((colu.take i).map o)) ∧ ys.length ≤ i) [nm "j"] [(nm "order", .ref oa)] [] []
                S e (envF_nil e) (compOk_of rfl eG (fun _ h => nomatch h) ?_) ?_ (fun i ys σ6 ⟨h, _⟩ => by rw [h]; exact hkeep _ _ hcadh hat_cad) (by rw [sizeLine_eq]; (clear hol hovl hlen hal hcl hbnd hlen0; omega)) (fun i ys σ6 h => h.2.2) ?_ ?_ (fun _ _ => rfl) (by with_unfolding_all (intro _; rfl))
              · intro q hq
                simp at hq; subst hq
                exact .inl ⟨_, hκ2, by walk_at "gv"⟩
              · walk_at "m"
                refine iter_list R'.handled S (hkeep _ _ hcadh hat_cad) fun it s rd => ⟨_, rd, rfl, by simpa [zi] using Ints.nil, by simp⟩
              · rintro i v ys σ6 cenv C φ4 s hi hP ⟨rfl, hys, hyl⟩ e' eF' eG' S
                obtain ⟨jv, tv, hjv, rfl⟩ := hcv.at hP
                obtain ⟨j0, hj0, rfl⟩ : ∃ j0 : Nat, colu[i]? = some j0 ∧ (j0 : Int) = jv := by
                  simp [zi] at hjv
                  obtain ⟨j0, e1, e2⟩ := hjv
                  exact ⟨j0, e1, e2⟩
                have hj0n := (hrng j0 (List.mem_of_getElem? hj0)).2
                dsimp only [List.map] at S e' ⊢
                walk_at "m"
                walk_at "m"
                obtain ⟨tk1, hk1⟩ := ho3 j0 hj0n
                refine item_n S (hext5 _ _ hov) (by (clear hol hlen hal hcl hyl hi hcll hcvl hbnd hlen0; omega)) hk1 ?_
                walk_at "m"
                refine ⟨_, _, ⟨rfl, ?_, by simp; (clear hi hcll hcvl hbnd hlen0 hcl hk hal hlen hovl hn2 hol; omega)⟩, S⟩
                have htake : colu.take (i + 1) = colu.take i ++ [j0] := by rw [List.take_succ, hj0]; rfl
                rw [htake]
                have := hys.snoc ((o j0 : Nat) : Int) tk1
                simpa [zi] using this
              · rintro D ys σ6 s ⟨rfl, hys, _⟩ hD S
                walk_at "m"
                have hDca : ca ≠ D := (by first | exact ne_sn hca5 hD | exact ne_ns hca5 hD | exact ne_sn hD hca5 | exact ne_ns hD hca5)
                have hDoa : oa ≠ D := (by first | exact ne_sn (hext5 _ _ hov) hD | exact ne_ns (hext5 _ _ hov) hD | exact ne_sn hD (hext5 _ _ hov) | exact ne_ns hD (hext5 _ _ hov))
                obtain ⟨tk1, hk1⟩ := ho3 k0 hk
                refine item_n S (by rw [upd_ne hDoa]; exact hext5 _ _ hov) (by (clear hol hlen hal hcl hbnd hlen0 hk; omega)) hk1 ?_
                walk_at "m"
                have hadl : ads.length = n := by rw [hcols.len, hcl]
                refine set_n S (by rw [upd_ne hDca]; exact hca5) (by simp; (clear hol hovl hlen hal hcl hcll hcvl hbnd hlen0; omega)) (by simp; rw [hadl]; exact ho2 k0 hk) fun s S => ?_
                walk_at "m"
                have hDh : D ∉ hads := fun c => hall5 D c hD
                have hDha : D ≠ ha := (by first | exact ne_sn (hkeep _ _ hoff hat_ha) hD | exact ne_ns (hkeep _ _ hoff hat_ha) hD | exact ne_sn hD (hkeep _ _ hoff hat_ha) | exact ne_ns hD (hkeep _ _ hoff hat_ha))
                have hDads : D ∉ ads := fun c => by
                  obtain ⟨i, hi⟩ := List.getElem?_of_mem c
                  obtain ⟨h1, h2⟩ := List.getElem?_eq_some_iff.mp hi
                  obtain ⟨vs1, q1, _⟩ := hcols.col i D _ hi (List.getElem?_eq_getElem (by rw [← hcols.len]; exact h1))
                  have h4 : σ4 D = some (IsL vs1) := by rw [h4o D ((by first | exact ne_sn q1 hcad | exact ne_ns q1 hcad | exact ne_sn hcad q1 | exact ne_ns hcad q1)) (fun c => hDh (by rw [c]; exact hh0m))]; exact q1
                  rw [hkeep _ _ hDh h4] at hD; cases hD
                have hcong : ∀ m upto j, upto ≤ k0 → (ColMem t n (fun i => if i = k0 then colu else col i) m upto j ↔ ColMem t n col m upto j) := fun m upto j hu => by
                  unfold ColMem
                  constructor
                  · rintro (h | ⟨i, hi, r, e, h⟩)
                    · exact .inl h
                    · have : i ≠ k0 := by (clear hadl hcll hcvl hbnd hlen0 hcl hk hal hlen hovl hn2 hol; omega)
                      simp only [this, if_false] at e
                      exact .inr ⟨i, hi, r, e, h⟩
                  · rintro (h | ⟨i, hi, r, e, h⟩)
                    · exact .inl h
                    · have : i ≠ k0 := by (clear hadl hcll hcvl hbnd hlen0 hcl hk hal hlen hovl hn2 hol; omega)
                      exact .inr ⟨i, hi, r, by simp only [this, if_false]; exact e, h⟩
                have hset' : (ads.map Value.ref).set (o k0) (.ref D) = (ads.set (o k0) D).map Value.ref := by rw [List.map_set]
                refine ⟨_, _, ⟨fun i => if i = k0 then colu else col i, ads.set (o k0) D, css.set (o k0) (zi (colu.map o)), _, _, _, _, rfl, ?_, ?_, ⟨?_, ?_, ?_⟩, ?_, ?_, ?_, ?_, ?_, ?_, ?_⟩, S⟩
                · exact (hext5.upd (hext5.none hD)).upd hcoln
                · rw [upd_ne (Ne.symm hcaha), upd_ne (Ne.symm hDha)]; exact hkeep _ _ hoff hat_ha
                · rw [upd_self, hset']
                · simp; exact hcols.len
                · intro i c cs h1 h2
                  by_cases hip : i = o k0
                  · subst hip
                    rw [List.getElem?_set_self (by rw [hadl]; exact ho2 k0 hk)] at h1
                    rw [List.getElem?_set_self (by rw [hcl]; exact ho2 k0 hk)] at h2
                    cases h1; cases h2
                    refine ⟨ys, by rw [upd_ne (Ne.symm hDca), upd_self], ?_⟩
                    rw [hcvl, List.take_length] at hys
                    exact hys
                  · rw [List.getElem?_set_ne (Ne.symm hip)] at h1 h2
                    obtain ⟨vs1, q1, q2⟩ := hcols.col i c cs h1 h2
                    have hcm := List.mem_of_getElem? h1
                    have hch := (hadh3 c hcm).1
                    refine ⟨vs1, ?_, q2⟩
                    rw [upd_ne (fun q => hcaads3 (by rw [← q]; exact hcm)), upd_ne (fun q => hDads (by rw [← q]; exact hcm))]
                    refine hkeep _ _ hch ?_
                    rw [h4o c ((by first | exact ne_sn q1 hcad | exact ne_ns q1 hcad | exact ne_sn hcad q1 | exact ne_ns hcad q1)) (fun q => hch (by rw [q]; exact hh0m))]; exact q1
                · simp; exact hcl
                · intro c hc
                  rcases List.mem_or_eq_of_mem_set hc with h | h
                  · exact hadh3 c h
                  · rw [h]; exact ⟨hDh, hDha⟩
                · intro c
                  rcases List.mem_or_eq_of_mem_set c with h | h
                  · exact hcaads3 h
                  · exact hDca h
                · intro i' hi'
                  by_cases hik : i' = k0
                  · subst hik
                    refine ⟨by simpa using hinc, fun j => ?_, by simpa using hrng⟩
                    rw [hcong _ _ _ (Nat.le_refl _)]
                    simpa using hset j
                  · have hI := hcols1 i' (by (clear hadl hcll hcvl hbnd hlen0 hcl hal hlen hovl hol; omega))
                    refine ⟨by simpa [hik] using hI.inc, fun j => ?_, by simpa [hik] using hI.rng⟩
                    rw [hcong _ _ _ (by (clear hadl hcll hcvl hbnd hlen0 hcl hal hlen hovl hol; omega))]
                    simpa [hik] using hI.mem j
                · intro i' hi'
                  by_cases hik : i' = k0
                  · subst hik
                    rw [List.getElem?_set_self (by rw [hcl]; exact ho2 i' hk)]
                    simp
                  · have hne : o k0 ≠ o i' := fun c => hik (by
                      have h1 := ho1 k0 hk
                      have h2 := ho1 i' (by (clear hlen hal hcl hadl c hbnd hlen0 hn2 hol; omega))
                      obtain ⟨p1, p2⟩ := List.getElem?_eq_some_iff.mp h1
                      obtain ⟨p3, p4⟩ := List.getElem?_eq_some_iff.mp h2
                      exact ((List.getElem_inj hond).mp (p2.trans (c.trans p4.symm))).symm)
                    rw [List.getElem?_set_ne hne]
                    simpa [hik] using hcss1 i' (by (clear hne hadl hcll hcvl hbnd hlen0 hcl hal hlen hovl hol; omega))
                · intro h hh
                  rw [upd_ne (fun q => hcah (by rw [← q]; exact hh)), upd_ne (fun q => hDh (by rw [← q]; exact hh))]
                  exact hall5 h hh
                · intro m h hm hmh
                  have hhm := List.mem_of_getElem? hmh
                  obtain ⟨vs1, hs1, q1, q2, q3, q4, q5⟩ := hheaps5 m h hm hmh
                  refine ⟨vs1, hs1, by rw [upd_ne (fun q => hcah (by rw [← q]; exact hhm)), upd_ne (fun q => hDh (by rw [← q]; exact hhm))]; exact q1, q2, q3, ?_, fun j => ?_⟩
                  · have : n * (k0 + 1 + 1) = n * (k0 + 1) + n := by rw [Nat.mul_add, Nat.mul_one]
                    have : (cv.drop 1).length ≤ n := by simp; (clear hlen hal hcl hadl this q4 hbnd hlen0 hk hn2 hol; omega)
                    (clear hlen hal hcl hadl hm hcll hcvl hk hn2 hol; omega)
                  · rw [q5]
                    have htk : ∀ r, colu = m :: r → r.take (cv.drop 1).length = r := fun r e => by
                      apply List.take_of_length_le
                      simp
                      rw [hcvl, e]; simp
                    constructor
                    · rintro ((h | ⟨i, hi, r, e, h⟩) | ⟨r, e, h⟩)
                      · exact .inl h
                      · have : i ≠ k0 := by (clear q4 hm hadl hcll hcvl hbnd hlen0 hcl hal hlen hovl hol; omega)
                        exact .inr ⟨i, by (clear q4 hm hadl hcll hcvl hbnd hlen0 hcl hal hlen hovl hol; omega), r, by simp only [this, if_false]; exact e, h⟩
                      · exact .inr ⟨k0, by (clear q4 hadl hcll hcvl hbnd hlen0 hcl hal hlen hovl hol; omega), r, by simpa using e, by rw [htk r e] at h; exact h⟩
                    · rintro (h | ⟨i, hi, r, e, h⟩)
                      · exact .inl (.inl h)
                      · by_cases hik : i = k0
                        · subst hik
                          simp at e
                          exact .inr ⟨r, e, by rw [htk r e]; exact h⟩
                        · simp only [hik, if_false] at e
                          exact .inl (.inr ⟨i, by (clear q4 hm hadl hcll hcvl hbnd hlen0 hcl hal hlen hovl hol; omega), r, e, h⟩)
        · rintro l' σ3 s ⟨col, ads, css, l5, l6, l7, l9, rfl, hext3, hhv3, hcols, hcl, hadh3, hcaads3, hcols1, hcss1, hall3, hheaps3⟩ S
          walk_at "m"
          exact ⟨_, _, S, fun s S => k _ _ _ _ _ s hext3 hcoln hcols hcl (by subst ho; subst ht; exact hcols1) (by subst ho; exact hcss1) S⟩
  · intro v σ' s'' h S''; exact h s'' S''
end
end
section
open PySem PySem.W PyProof.Rows
/-- where a sorter's parts lie; tag tells them apart -/
structure SA where
  x : Addr
  dx : Addr
  nd : Addr
  ra : Addr
  inf : Nat → Addr
  idx : Nat → Addr
  sus : Nat → Addr
  tag : Addr → Nat × Nat
noncomputable def rdv (rd : Option (List Nat)) (ra : Addr) : Value := match rd with | none => .none | some _ => .ref ra
structure Srt (w : World) (σ₀ σ : Own) (a : SA) (nodes : List Nat) (np : Nat → Int) (su : Nat → List Nat) (rd : Option (List Nat)) (npo nfi : Int) : Prop where
  ext : Ext σ₀ σ
  tx : a.tag a.x = (0, 0)
  tdx : a.tag a.dx = (1, 0)
  tnd : a.tag a.nd = (2, 0)
  tra : rd.isSome = true → a.tag a.ra = (6, 0)
  tin : ∀ p ∈ nodes, a.tag (a.inf p) = (3, p) ∧ a.tag (a.idx p) = (4, p) ∧ a.tag (a.sus p) = (5, p)
  n0 : σ₀ a.x = none ∧ σ₀ a.dx = none ∧ σ₀ a.nd = none ∧ (rd.isSome = true → σ₀ a.ra = none)
  n1 : ∀ p ∈ nodes, σ₀ (a.inf p) = none ∧ σ₀ (a.idx p) = none ∧ σ₀ (a.sus p) = none
  hx : σ a.x = some (IsIn 172 a.dx)
  hdx : ∃ t3 t4 : Tok, σ a.dx = some (IsAt (.ref a.nd) (rdv rd a.ra) (.int npo t3) (.int nfi t4))
  hnd : σ a.nd = some (IsD w (nodes.map fun p : Nat => ((p : Int), Value.ref (a.inf p))))
  hra : ∀ rs, rd = some rs → ∃ vs, σ a.ra = some (IsL vs) ∧ Ints vs (zi rs)
  info : ∀ p ∈ nodes, σ (a.inf p) = some (IsNi p (np p) (a.sus p) (a.idx p)) ∧ σ (a.idx p) = some IsED ∧ ∃ vs, σ (a.sus p) = some (IsL vs) ∧ Ints vs (zi (su p))
  nodup : nodes.Nodup
section
variable {w : World} {σ₀ σ : Own} {a : SA} {nodes : List Nat} {np : Nat → Int} {su : Nat → List Nat} {rd : Option (List Nat)} {npo nfi : Int}
theorem tag_ne {tag : Addr → Nat × Nat} {x y : Addr} {u v : Nat × Nat} (h1 : tag x = u) (h2 : tag y = v) (h : u ≠ v) : x ≠ y := fun c => h (by rw [← h1, c, h2])
theorem Srt.setNp (S : Srt w σ₀ σ a nodes np su rd npo nfi) {p : Nat} (hp : p ∈ nodes) (k : Int) : Srt w σ₀ (upd σ (a.inf p) (IsNi p k (a.sus p) (a.idx p))) a nodes (fun q => if q = p then k else np q) su rd npo nfi := by
  obtain ⟨t1, t2, t3⟩ := S.tin p hp
  refine { S with ext := S.ext.upd (S.n1 p hp).1, hx := ?_, hdx := ?_, hnd := ?_, hra := ?_, info := ?_ }
  · rw [upd_ne (tag_ne S.tx t1 (by simp))]; exact S.hx
  · rw [upd_ne (tag_ne S.tdx t1 (by simp))]; exact S.hdx
  · rw [upd_ne (tag_ne S.tnd t1 (by simp))]; exact S.hnd
  · intro rs e; rw [upd_ne (tag_ne (S.tra (by rw [e]; rfl)) t1 (by simp))]; exact S.hra rs e
  · intro q hq
    obtain ⟨u1, u2, u3⟩ := S.tin q hq
    obtain ⟨i1, i2, i3⟩ := S.info q hq
    rw [upd_ne (tag_ne u2 t1 (by simp)), upd_ne (tag_ne u3 t1 (by simp))]
    refine ⟨?_, i2, i3⟩
    by_cases e : q = p
    · subst e; rw [upd_self]; simp
    · rw [upd_ne (tag_ne u1 t1 (by simp [e]))]; simpa [e] using i1
theorem Srt.setSu (S : Srt w σ₀ σ a nodes np su rd npo nfi) {p : Nat} (hp : p ∈ nodes) {vs : List Value} {js : List Nat} (hi : Ints vs (zi js)) : Srt w σ₀ (upd σ (a.sus p) (IsL vs)) a nodes np (fun q => if q = p then js else su q) rd npo nfi := by
  obtain ⟨t1, t2, t3⟩ := S.tin p hp
  refine { S with ext := S.ext.upd (S.n1 p hp).2.2, hx := ?_, hdx := ?_, hnd := ?_, hra := ?_, info := ?_ }
  · rw [upd_ne (tag_ne S.tx t3 (by simp))]; exact S.hx
  · rw [upd_ne (tag_ne S.tdx t3 (by simp))]; exact S.hdx
  · rw [upd_ne (tag_ne S.tnd t3 (by simp))]; exact S.hnd
  · intro rs e; rw [upd_ne (tag_ne (S.tra (by rw [e]; rfl)) t3 (by simp))]; exact S.hra rs e
  · intro q hq
    obtain ⟨u1, u2, u3⟩ := S.tin q hq
    obtain ⟨i1, i2, i3⟩ := S.info q hq
    rw [upd_ne (tag_ne u1 t3 (by simp)), upd_ne (tag_ne u2 t3 (by simp))]
    refine ⟨i1, i2, ?_⟩
    by_cases e : q = p
    · subst e; rw [upd_self]; exact ⟨vs, rfl, by simpa using hi⟩
    · rw [upd_ne (tag_ne u3 t3 (by simp [e]))]; simpa [e] using i3
theorem Srt.setCnt (S : Srt w σ₀ σ a nodes np su rd npo nfi) (n' f' : Int) (t3 t4 : Tok) : Srt w σ₀ (upd σ a.dx (IsAt (.ref a.nd) (rdv rd a.ra) (.int n' t3) (.int f' t4))) a nodes np su rd n' f' := by
  refine { S with ext := S.ext.upd S.n0.2.1, hx := ?_, hdx := ⟨t3, t4, upd_self⟩, hnd := ?_, hra := ?_, info := ?_ }
  · rw [upd_ne (tag_ne S.tx S.tdx (by simp))]; exact S.hx
  · rw [upd_ne (tag_ne S.tnd S.tdx (by simp))]; exact S.hnd
  · intro rs e; rw [upd_ne (tag_ne (S.tra (by rw [e]; rfl)) S.tdx (by simp))]; exact S.hra rs e
  · intro q hq
    obtain ⟨u1, u2, u3⟩ := S.tin q hq
    rw [upd_ne (tag_ne u1 S.tdx (by simp)), upd_ne (tag_ne u2 S.tdx (by simp)), upd_ne (tag_ne u3 S.tdx (by simp))]
    exact S.info q hq
theorem Srt.setRd {rs : List Nat} (S : Srt w σ₀ σ a nodes np su (some rs) npo nfi) {vs : List Value} {js : List Nat} (hi : Ints vs (zi js)) : Srt w σ₀ (upd σ a.ra (IsL vs)) a nodes np su (some js) npo nfi := by
  have tr := S.tra rfl
  refine { S with ext := S.ext.upd (S.n0.2.2.2 rfl), tra := fun _ => tr, n0 := ⟨S.n0.1, S.n0.2.1, S.n0.2.2.1, fun _ => S.n0.2.2.2 rfl⟩, hx := ?_, hdx := ?_, hnd := ?_, hra := ?_, info := ?_ }
  · rw [upd_ne (tag_ne S.tx tr (by simp))]; exact S.hx
  · rw [upd_ne (tag_ne S.tdx tr (by simp))]; exact S.hdx
  · rw [upd_ne (tag_ne S.tnd tr (by simp))]; exact S.hnd
  · intro rs' e; cases e; exact ⟨vs, upd_self, hi⟩
  · intro q hq
    obtain ⟨u1, u2, u3⟩ := S.tin q hq
    rw [upd_ne (tag_ne u1 tr (by simp)), upd_ne (tag_ne u2 tr (by simp)), upd_ne (tag_ne u3 tr (by simp))]
    exact S.info q hq
/-- another object comes or goes -/
theorem Srt.more {σ' : Own} (S : Srt w σ₀ σ a nodes np su rd npo nfi) (h : Ext σ σ') : Srt w σ₀ σ' a nodes np su rd npo nfi :=
  { S with ext := S.ext.trans h, hx := h _ _ S.hx, hdx := let ⟨t3, t4, e⟩ := S.hdx; ⟨t3, t4, h _ _ e⟩, hnd := h _ _ S.hnd, hra := fun rs e => let ⟨vs, h1, h2⟩ := S.hra rs e; ⟨vs, h _ _ h1, h2⟩,
           info := fun p hp => let ⟨h1, h2, vs, h3, h4⟩ := S.info p hp; ⟨h _ _ h1, h _ _ h2, vs, h _ _ h3, h4⟩ }
theorem Srt.base {σ₁ : Own} (S : Srt w σ₀ σ a nodes np su rd npo nfi) (h : Ext σ₁ σ₀) : Srt w σ₁ σ a nodes np su rd npo nfi :=
  { S with ext := h.trans S.ext, n0 := ⟨h.none S.n0.1, h.none S.n0.2.1, h.none S.n0.2.2.1, fun e => h.none (S.n0.2.2.2 e)⟩, n1 := fun p hp => ⟨h.none (S.n1 p hp).1, h.none (S.n1 p hp).2.1, h.none (S.n1 p hp).2.2⟩ }
theorem valueAt_map {f : Nat → Value} : ∀ {l : List Nat} {p : Nat}, p ∈ l → valueAt (l.map fun q : Nat => ((q : Int), f q)) (p : Int) = some (f p)
  | q :: r, p, h => by
    unfold valueAt
    rw [List.map_cons, List.find?_cons]
    by_cases e : q = p
    · subst e; simp
    · have hb : decide ((q : Int) = (p : Int)) = false := by simp; omega
      simp only [hb]
      rcases List.mem_cons.mp h with h | h
      · exact absurd h.symm e
      · have := valueAt_map (f := f) h
        unfold valueAt at this
        exact this
theorem valueAt_none {f : Nat → Value} : ∀ {l : List Nat} {p : Nat}, p ∉ l → valueAt (l.map fun q : Nat => ((q : Int), f q)) (p : Int) = none := by
  intro l p h
  unfold valueAt
  rw [Option.map_eq_none_iff, List.find?_eq_none]
  intro x hx
  obtain ⟨q, hq, rfl⟩ := List.mem_map.mp hx
  simp
  intro c
  have : q = p := by omega
  exact h (this ▸ hq)
end
end
section
open PySem PySem.W PyProof.Rows
section
variable {w : World} {B : Heap} {A : Around} {L : Addr} {N : List (Str × Option Addr)} {l : List (Option Value)} {σ : Own} {φ : Frz} {s₀ s : Shared} {E : Value → Shared → Prop} {env : Env}
theorem asgn_sub {prog : Program} {o i : Expr} {pos : Pos} {v : Value} {Q : Unit → Shared → Prop}
    (h : wpAny (model prog w) A (eval o env) (fun ov s₁ => wpAny (model prog w) A (eval i env) (fun iv s₂ => wpAny (model prog w) A (setItem ov iv v) Q E s₂) E s₁) E s) : wpAny (model prog w) A (assign (.Subscript o i pos) env v) Q E s := by
  rw [assign_Subscript]
  exact wpAny_bind (wpAny_holding (wpAny_mono h (fun ov s₁ h₁ => wpAny_bind (wpAny_holding (wpAny_mono h₁ (fun iv s₂ h₂ => wpAny_bind (wpAny_standAt (wpAny_bind (wpAny_holding (wpAny_mono h₂ (fun _ s₃ h₃ => wpAny_releaseD h₃) fun _ _ x => x))))) fun _ _ x => x))) fun _ _ x => x))
theorem len_t {prog : Program} {a : Addr} {vs : List Value} {Q : Value → Shared → Prop} (S : St B L N l σ φ s₀ s) (h : σ a = some (IsTp vs)) (hfit : vs.length < 1000000)
    (hq : ∀ t s', St B L N l σ φ s₀ s' → Q (.int vs.length t) s') : wpAny (model prog w) A (call (.builtin "len") [.ref a]) Q E s := by
  obtain ⟨n, ho⟩ := S.isTp h
  exact PyProof.Rows.len_tuple (items := vs.toArray) ⟨_, ho, rfl, n, rfl⟩ (by simp; omega) (by simpa using hq _ _ (S.toks _))
variable {σ₀ : Own} {a : SA} {nodes : List Nat} {np : Nat → Int} {su : Nat → List Nat} {rd : Option (List Nat)} {npo nfi : Int}
theorem handed_ref (a : Addr) : handedIn (.ref a) = true := rfl
theorem gni_old (hB : Base w B) (R : Rm A 1) (S : St B L N l σ φ s₀ s) (I : Srt w σ₀ σ a nodes np su rd npo nfi) {p : Nat} {tp : Tok} (hp : p ∈ nodes) {Q : Value → Shared → Prop} (k : ∀ s', St B L N l σ φ s₀ s' → Q (.ref (a.inf p)) s') :
  wpAny (model PR w) A (call (.ref 115) [.ref a.x, .int p tp]) Q E s := by
  refine call_st [(nm "self", false), (nm "node", false), (nm "result", false)] [some (.ref a.x), some (.int p tp), none] [(nm "_NodeInfo", .ref 75)] (fun v σ' => ∀ s, St B L N l σ' φ s₀ s → Q v s)
    S (by have := R.depth; omega) hB.lim (hB.globs rfl) (hB.X _ _ rfl) rfl (codeRec_of hB.X rfl) rfl rfl rfl rfl rfl (cells_loc rfl) (no_cells rfl) (by decide) rfl (by walk_at "init") ?_ ?_
  · intro env A' L' κ φ' s' _ e eG dA S'
    have R' := R.deeper dA
    dsimp only [List.map] at S' e ⊢
    dsimp only [cond] at S' e ⊢
    obtain ⟨t3, t4, hdx⟩ := I.hdx
    refine fld_in fun KK hKK => ?_
    refine wpAny_execs_cons (wpAny_If ?_)
    walk_at "m"
    refine get_n2i hB S' I.hx hdx rfl fun s S => ?_
    walk_at "m"
    refine meth_d S I.hnd PySem.F.slot_dict_get PySem.F.type_dict_get ?_
    walk_at "m"
    refine get_d hB S I.hnd fun s S => ?_
    rw [valueAt_map hp]
    dsimp only [Option.getD]
    walk_at "m"
    refine ite_f (by simp) ?_
    walk_at "m"
    exact ⟨_, _, S, fun s S => k s S⟩
  · intro v σ' s'' h S''; exact h s'' S''
/-- where a new node's parts lie -/
noncomputable def SA.with (a : SA) (p x' d' s' : Addr) : SA := { a with inf := fun q => if q = p then x' else a.inf q, idx := fun q => if q = p then d' else a.idx q, sus := fun q => if q = p then s' else a.sus q, tag := fun b => if b = x' then (3, p) else if b = d' then (4, p) else if b = s' then (5, p) else a.tag b }
theorem Srt.add (I : Srt w σ₀ σ a nodes np su none npo nfi) {p : Nat} (hp : p ∉ nodes) {x' d' s' : Addr} (h1 : σ x' = none) (h2 : σ d' = none) (h3 : σ s' = none) (n1 : x' ≠ d') (n2 : x' ≠ s') (n3 : d' ≠ s') :
    Srt w σ₀ (upd (upd (upd (upd σ d' IsED) s' (IsL [])) x' (IsNi p 0 s' d')) a.nd (IsD w ((nodes.map fun p : Nat => ((p : Int), Value.ref (a.inf p))) ++ [((p : Int), .ref x')]))) (a.with p x' d' s') (nodes ++ [p]) (fun q => if q = p then 0 else np q) (fun q => if q = p then [] else su q) none npo nfi := by
  have old : ∀ b P, σ b = some P → b ≠ x' ∧ b ≠ d' ∧ b ≠ s' := fun b P e => ⟨((by first | exact ne_sn e h1 | exact ne_ns e h1 | exact ne_sn h1 e | exact ne_ns h1 e)), ((by first | exact ne_sn e h2 | exact ne_ns e h2 | exact ne_sn h2 e | exact ne_ns h2 e)), ((by first | exact ne_sn e h3 | exact ne_ns e h3 | exact ne_sn h3 e | exact ne_ns h3 e))⟩
  obtain ⟨t3, t4, hdx⟩ := I.hdx
  have ox := old _ _ I.hx
  have odx := old _ _ hdx
  have ond := old _ _ I.hnd
  have tg : ∀ b P, σ b = some P → (a.with p x' d' s').tag b = a.tag b := fun b P e => by
    obtain ⟨q1, q2, q3⟩ := old b P e
    simp [SA.with, q1, q2, q3]
  have keep : ∀ b P, b ≠ a.nd → σ b = some P → upd (upd (upd (upd σ d' IsED) s' (IsL [])) x' (IsNi p 0 s' d')) a.nd (IsD w ((nodes.map fun p : Nat => ((p : Int), Value.ref (a.inf p))) ++ [((p : Int), .ref x')])) b = some P := fun b P hb e => by
    obtain ⟨q1, q2, q3⟩ := old b P e
    rw [upd_ne hb, upd_ne q1, upd_ne q3, upd_ne q2]; exact e
  have hpn : ∀ q ∈ nodes, q ≠ p := fun q hq c => hp (c ▸ hq)
  have e2 : I.ext.none h1 = I.ext.none h1 := rfl
  refine { ext := ?_, tx := (tg _ _ I.hx).trans I.tx, tdx := (tg _ _ hdx).trans I.tdx, tnd := (tg _ _ I.hnd).trans I.tnd, tra := (fun h => by cases h), tin := ?_, n0 := ⟨I.n0.1, I.n0.2.1, I.n0.2.2.1, (fun h => by cases h)⟩, n1 := ?_, hx := keep _ _ (tag_ne I.tx I.tnd (by simp)) I.hx, hdx := ⟨t3, t4, keep _ _ (tag_ne I.tdx I.tnd (by simp)) hdx⟩, hnd := ?_, hra := (fun rs e => by cases e), info := ?_, nodup := ?_ }
  · exact ((((I.ext.upd (I.ext.none h2)).upd (I.ext.none h3)).upd (I.ext.none h1)).upd I.n0.2.2.1)
  · intro q hq
    rcases List.mem_append.mp hq with h | h
    · have hne := hpn q h
      obtain ⟨i1, i2, vs, i3, _⟩ := I.info q h
      obtain ⟨u1, u2, u3⟩ := I.tin q h
      simp only [SA.with, hne, if_false]
      have a1 := tg _ _ i1
      have a2 := tg _ _ i2
      have a3 := tg _ _ i3
      simp only [SA.with] at a1 a2 a3
      rw [a1, a2, a3]
      exact ⟨u1, u2, u3⟩
    · simp at h; subst h
      simp [SA.with, n1, n2, n3, Ne.symm n1, Ne.symm n2, Ne.symm n3]
  · intro q hq
    rcases List.mem_append.mp hq with h | h
    · have hne := hpn q h
      simpa [SA.with, hne] using I.n1 q h
    · simp at h; subst h
      simp only [SA.with, if_true]
      exact ⟨I.ext.none h1, I.ext.none h2, I.ext.none h3⟩
  · show upd _ a.nd _ a.nd = _
    rw [upd_self]
    congr 2
    rw [List.map_append]
    congr 1
    · apply List.map_congr_left
      intro q hq
      simp [SA.with, hpn q hq]
    · simp [SA.with]
  · intro q hq
    rcases List.mem_append.mp hq with h | h
    · have hne := hpn q h
      obtain ⟨i1, i2, vs, i3, i4⟩ := I.info q h
      obtain ⟨u1, u2, u3⟩ := I.tin q h
      simp only [SA.with, hne, if_false]
      exact ⟨keep _ _ (tag_ne u1 I.tnd (by simp)) i1, keep _ _ (tag_ne u2 I.tnd (by simp)) i2, vs, keep _ _ (tag_ne u3 I.tnd (by simp)) i3, i4⟩
    · simp at h; subst h
      simp only [SA.with, if_true]
      refine ⟨?_, ?_, [], ?_, Ints.nil⟩
      · rw [upd_ne (Ne.symm ond.1), upd_self]
      · rw [upd_ne (Ne.symm ond.2.1), upd_ne (Ne.symm n1), upd_ne n3, upd_self]
      · rw [upd_ne (Ne.symm ond.2.2), upd_ne (Ne.symm n2), upd_self]
  · exact List.nodup_append.mpr ⟨I.nodup, by simp, fun x hx y hy => by simp at hy; subst hy; exact hpn x hx⟩
theorem gni_new (hB : Base w B) (R : Rm A 4) (S : St B L N l σ φ s₀ s) (I : Srt w σ₀ σ a nodes np su none npo nfi) (hnl : nodes.length < 1000) {p : Nat} {tp : Tok} (hp : p ∉ nodes) {Q : Value → Shared → Prop}
  (k : ∀ σ' x' d' s1 s', Srt w σ₀ σ' (a.with p x' d' s1) (nodes ++ [p]) (fun q => if q = p then 0 else np q) (fun q => if q = p then [] else su q) none npo nfi → (∀ b P, σ b = some P → b ≠ a.nd → σ' b = some P) → St B L N l σ' φ s₀ s' → Q (.ref x') s') :
  wpAny (model PR w) A (call (.ref 115) [.ref a.x, .int p tp]) Q E s := by
  refine call_st [(nm "self", false), (nm "node", false), (nm "result", false)] [some (.ref a.x), some (.int p tp), none] [(nm "_NodeInfo", .ref 75)]
    (fun v σ' => ∀ s, St B L N l σ' φ s₀ s → Q v s)
    S (by have := R.depth; omega) hB.lim (hB.globs rfl) (hB.X _ _ rfl) rfl (codeRec_of hB.X rfl) rfl rfl rfl rfl rfl (cells_loc rfl) (no_cells rfl) (by decide) rfl (by walk_at "init") ?_ ?_
  · intro env A' L' κ φ' s' _ e eG dA S'
    have R' := R.deeper dA
    dsimp only [List.map] at S' e ⊢
    dsimp only [cond] at S' e ⊢
    obtain ⟨t3, t4, hdx⟩ := I.hdx
    refine fld_in fun KK hKK => ?_
    refine wpAny_execs_cons (wpAny_If ?_)
    walk_at "m"
    refine get_n2i hB S' I.hx hdx rfl fun s S => ?_
    walk_at "m"
    refine meth_d S I.hnd PySem.F.slot_dict_get PySem.F.type_dict_get ?_
    walk_at "m"
    refine get_d hB S I.hnd fun s S => ?_
    rw [valueAt_none hp]
    dsimp only [Option.getD]
    walk_at "m"
    refine ite_t (by simp) ?_
    walk_at "m"
    refine ni_make hB R' S p tp fun x' d' s1 s h1 h2 h3 n1 n2 n3 S => ?_
    have old : ∀ b P, σ b = some P → upd (upd (upd σ d' IsED) s1 (IsL [])) x' (IsNi p 0 s1 d') b = some P := fun b P e => by
      rw [upd_ne ((by first | exact ne_sn e h1 | exact ne_ns e h1 | exact ne_sn h1 e | exact ne_ns h1 e)), upd_ne ((by first | exact ne_sn e h3 | exact ne_ns e h3 | exact ne_sn h3 e | exact ne_ns h3 e)), upd_ne ((by first | exact ne_sn e h2 | exact ne_ns e h2 | exact ne_sn h2 e | exact ne_ns h2 e))]; exact e
    walk_at "m"
    refine get_n2i hB S (old _ _ I.hx) (old _ _ hdx) rfl fun s S => ?_
    walk_at "m"
    refine set_d S (old _ _ I.hnd) (by rw [sizeLine_eq]; simp; omega) fun s S => ?_
    walk_at "m"
    have est : stored (nodes.map fun p : Nat => ((p : Int), Value.ref (a.inf p))) (p : Int) (.ref x') = (nodes.map fun p : Nat => ((p : Int), Value.ref (a.inf p))) ++ [((p : Int), .ref x')] := by
      unfold stored
      rw [if_neg]
      intro c
      obtain ⟨q, hq, e⟩ := List.any_eq_true.mp c
      obtain ⟨r, hr, rfl⟩ := List.mem_map.mp hq
      simp at e
      have : r = p := by omega
      exact hp (this ▸ hr)
    rw [est] at S
    exact ⟨_, _, S, fun s S => k _ _ _ _ s (I.add hp h1 h2 h3 n1 n2 n3) (fun b P e hb => by rw [upd_ne hb]; exact old b P e) S⟩
  · intro v σ' s'' h S''; exact h s'' S''
end
end
section
open PySem PySem.W PyProof.Rows
section
variable {w : World} {B : Heap} {A : Around} {L : Addr} {N : List (Str × Option Addr)} {l : List (Option Value)} {σ : Own} {φ : Frz} {s₀ s : Shared} {E : Value → Shared → Prop} {env : Env}
variable {σ₀ : Own} {a : SA} {nodes : List Nat} {np : Nat → Int} {su : Nat → List Nat} {rd : Option (List Nat)} {npo nfi : Int}
theorem Srt.cong {np' : Nat → Int} {su' : Nat → List Nat} (I : Srt w σ₀ σ a nodes np su rd npo nfi) (h1 : ∀ p ∈ nodes, np p = np' p) (h2 : ∀ p ∈ nodes, su p = su' p) : Srt w σ₀ σ a nodes np' su' rd npo nfi :=
  { I with info := fun p hp => by rw [← h1 p hp, ← h2 p hp]; exact I.info p hp }
/-- another object comes and is kept -/
theorem Srt.own (I : Srt w σ₀ σ a nodes np su rd npo nfi) {D : Addr} {P : Obj → Prop} (hD : σ D = none) : Srt w (upd σ₀ D P) (upd σ D P) a nodes np su rd npo nfi := by
  have I1 := I.more (Ext.rfl.upd (P := P) hD)
  have off : ∀ b, σ₀ b = none → (∃ Q, σ b = some Q) → upd σ₀ D P b = none := fun b h ⟨Q, e⟩ => by
    rw [upd_ne ((by first | exact ne_sn e hD | exact ne_ns e hD | exact ne_sn hD e | exact ne_ns hD e))]; exact h
  exact { I1 with
    ext := fun b Q e => by
      by_cases c : b = D
      · subst c; rw [upd_self] at e ⊢; exact e
      · rw [upd_ne c] at e ⊢; exact I.ext b Q e
    n0 := ⟨off _ I.n0.1 ⟨_, I.hx⟩, off _ I.n0.2.1 (let ⟨_, _, h⟩ := I.hdx; ⟨_, h⟩), off _ I.n0.2.2.1 ⟨_, I.hnd⟩, fun h => off _ (I.n0.2.2.2 h) (by
      cases rd with
      | none => cases h
      | some rs => obtain ⟨vs, h1, _⟩ := I.hra rs rfl; exact ⟨_, h1⟩)⟩
    n1 := fun p hp => by
      obtain ⟨i1, i2, vs, i3, _⟩ := I.info p hp
      exact ⟨off _ (I.n1 p hp).1 ⟨_, i1⟩, off _ (I.n1 p hp).2.1 ⟨_, i2⟩, off _ (I.n1 p hp).2.2 ⟨_, i3⟩⟩ }
theorem isNi_tp {p np : Int} {sa dx : Addr} {vs : List Value} (h : some (IsNi p np sa dx) = some (IsTp vs)) : False := by
  have := congrFun (Option.some.inj h) ⟨.ref 75, some dx, .plain, #[some (.int p 0), some (.int np 0), some (.ref sa)]⟩
  have h1 : IsNi p np sa dx ⟨.ref 75, some dx, .plain, #[some (.int p 0), some (.int np 0), some (.ref sa)]⟩ := ⟨0, 0, rfl⟩
  rw [this] at h1
  obtain ⟨n, e⟩ := h1
  cases e
theorem add_new (hB : Base w B) (R : Rm A 6) (S : St B L N l σ φ s₀ s) (I : Srt w σ₀ σ a nodes np su none npo nfi) (hnl : nodes.length < 1000) {p : Nat} {tp : Tok} (hp : p ∉ nodes) {Q : Value → Shared → Prop}
  (k : ∀ σ' x' d' s1 s', Srt w σ₀ σ' (a.with p x' d' s1) (nodes ++ [p]) (fun q => if q = p then 0 else np q) (fun q => if q = p then [] else su q) none npo nfi → St B L N l σ' φ s₀ s' → Q .none s') :
  wpAny (model PR w) A (call (.ref 122) [.ref a.x, .int p tp]) Q E s := by
  refine wpAny_call (code_star (vs := []) (binds := fun D => [(nm "self", .ref a.x), (nm "node", .int p tp), (nm "predecessors", .ref D)]) [nm "self", nm "node", nm "predecessors", nm "nodeinfo", nm "pred", nm "pred_info"] (fun D => [some (.ref a.x), some (.int p tp), some (.ref D), none, none, none]) [(nm "len", .builtin "len")]
    (fun v σ' => ∀ s, St B L N l σ' φ s₀ s → Q v s)
    hB S (by have := R.depth; omega) (hB.globs rfl) (hB.X _ _ rfl) rfl (codeRec_of hB.X rfl) rfl rfl (fun _ => rfl) (by decide) (fun D => locs rfl) (by decide) rfl rfl rfl ?_ ?_ ?_)
  · intro D h; repeat' (first | exact Vars.nil | refine Vars.loc ?_ ?_ | (intro u e; cases e; rfl) | (intro u e; cases e))
  · intro env A' L' φ' s' D hD e eG dA S'
    have R' := R.deeper dA
    have I1 : Srt w σ₀ (upd σ D (IsTp [])) a nodes np su none npo nfi := I.more (Ext.rfl.upd hD)
    dsimp only [List.map] at S' e ⊢
    obtain ⟨t3, t4, hdx⟩ := I1.hdx
    refine fld_in fun KK hKK => ?_
    refine wpAny_execs_cons (wpAny_If ?_)
    walk_at "m"
    refine get_rdy hB S' I1.hx hdx rfl fun s S => ?_
    walk_at "m"
    refine ite_f (by simp [rdv]) ?_
    walk_at "m"
    refine meth_at hB S I1.hx hdx rfl rfl rfl (fun _ _ _ _ _ _ _ _ => rfl) ?_
    walk_at "m"
    refine gni_new hB (R'.less (by omega)) S I1 hnl hp fun σ2 x' d' s1 s I2 keep S => ?_
    have hT : σ2 D = some (IsTp []) := keep D _ upd_self ((by first | exact ne_sn hD I.hnd | exact ne_ns hD I.hnd | exact ne_sn I.hnd hD | exact ne_ns I.hnd hD))
    walk_at "m"
    have hpm : p ∈ nodes ++ [p] := by simp
    obtain ⟨i1, i2, vs, i3, i4⟩ := I2.info p hpm
    have hxe : (a.with p x' d' s1).inf p = x' := by simp [SA.with]
    rw [hxe] at i1
    refine ni_np hB S i1 i2 fun t1 s S => ?_
    walk_at "m"
    refine set_np hB S i1 i2 fun s S => ?_
    have I3 := I2.setNp hpm (0 : Int)
    rw [hxe] at I3
    have e0 : (if p = p then (0:Int) else np p) + (([] : List Value).length : Nat) = 0 := by simp
    rw [e0] at S
    have hT2 : upd σ2 x' (IsNi p 0 ((a.with p x' d' s1).sus p) ((a.with p x' d' s1).idx p)) D = some (IsTp []) := by
      rw [upd_ne]; exact hT
      intro c; rw [c, i1] at hT; exact isNi_tp hT
    refine fld_in fun KK hKK => ?_
    refine wpAny_execs_cons ?_
    refine for_j 0 (fun i v => ([] : List Value)[i]? = some v) (needT D []) (fun i l' σ' => l' = [some (.ref a.x), some (.int p tp), some (.ref D), some (.ref x'), none, none] ∧ σ' = upd σ2 x' (IsNi p 0 ((a.with p x' d' s1).sus p) ((a.with p x' d' s1).idx p))) S ?_ ?_ ?_ ?_ (by with_unfolding_all (intro _; rfl))
    · walk_at "m"
      exact iter_tuple R'.handled S hT2 fun it s r => ⟨_, _, r, rfl, rfl⟩
    · rintro i l' σ' ⟨rfl, rfl⟩; exact hT2
    · rintro i v l' σ' φ'' s hi; omega
    · rintro l' σ' s ⟨rfl, rfl⟩ S
      walk_at "m"
      exact ⟨_, _, S, fun s S => k _ _ _ _ s (I3.cong (fun q _ => by by_cases e : q = p <;> simp [e]) (fun _ _ => rfl)) S⟩
  · intro v σ' s'' h S''; exact h s'' S''
inductive AoJ (w : World) (σ₀ : Own) (a : SA) (nodes : List Nat) (np : Nat → Int) (su : Nat → List Nat) (npo nfi : Int) (p q : Nat) (tp tq : Tok) (D : Addr) (i : Nat) (l' : List (Option Value)) (σ' : Own) : Prop
  | mk (l5 l6 : Option Value) (su' : Nat → List Nat) (h1 : l' = [some (.ref a.x), some (.int q tq), some (.ref D), some (.ref (a.inf q)), l5, l6]) (h2 : su' = (if i = 0 then su else (fun r => if r = p then su p ++ [q] else su r))) (h3 : Srt w (upd σ₀ D (IsTp [.int p tp])) σ' a nodes (fun r => if r = q then np q + 1 else np r) su' none npo nfi) : AoJ w σ₀ a nodes np su npo nfi p q tp tq D i l' σ'
theorem add_old (hB : Base w B) (R : Rm A 6) (S : St B L N l σ φ s₀ s) (I : Srt w σ₀ σ a nodes np su none npo nfi) {p q : Nat} {tp tq : Tok} (hp : p ∈ nodes) (hq : q ∈ nodes) (hsl : (su p).length < 1000) {Q : Value → Shared → Prop}
  (k : ∀ σ' s', Srt w σ₀ σ' a nodes (fun r => if r = q then np q + 1 else np r) (fun r => if r = p then su p ++ [q] else su r) none npo nfi → St B L N l σ' φ s₀ s' → Q .none s') :
  wpAny (model PR w) A (call (.ref 122) [.ref a.x, .int q tq, .int p tp]) Q E s := by
  refine wpAny_call (code_star (vs := [.int p tp]) (binds := fun D => [(nm "self", .ref a.x), (nm "node", .int q tq), (nm "predecessors", .ref D)]) [nm "self", nm "node", nm "predecessors", nm "nodeinfo", nm "pred", nm "pred_info"] (fun D => [some (.ref a.x), some (.int q tq), some (.ref D), none, none, none]) [(nm "len", .builtin "len")]
    (fun v σ' => ∀ s, St B L N l σ' φ s₀ s → Q v s)
    hB S (by have := R.depth; omega) (hB.globs rfl) (hB.X _ _ rfl) rfl (codeRec_of hB.X rfl) rfl rfl (fun _ => rfl) (by decide) (fun D => locs rfl) (by decide) rfl rfl rfl ?_ ?_ ?_)
  · intro D h; repeat' (first | exact Vars.nil | refine Vars.loc ?_ ?_ | (intro u e; cases e; rfl) | (intro u e; cases e))
  · intro env A' L' φ' s' D hD e eG dA S'
    have R' := R.deeper dA
    have I1 : Srt w (upd σ₀ D (IsTp [.int p tp])) (upd σ D (IsTp [.int p tp])) a nodes np su none npo nfi := I.own hD
    dsimp only [List.map] at S' e ⊢
    obtain ⟨t3, t4, hdx⟩ := I1.hdx
    refine fld_in fun KK hKK => ?_
    refine wpAny_execs_cons (wpAny_If ?_)
    walk_at "m"
    refine get_rdy hB S' I1.hx hdx rfl fun s S => ?_
    walk_at "m"
    refine ite_f (by simp [rdv]) ?_
    walk_at "m"
    refine meth_at hB S I1.hx hdx rfl rfl rfl (fun _ _ _ _ _ _ _ _ => rfl) ?_
    walk_at "m"
    refine gni_old hB (R'.less (by omega)) S I1 hq fun s S => ?_
    have hT : upd σ D (IsTp [.int p tp]) D = some (IsTp [.int p tp]) := upd_self
    walk_at "m"
    obtain ⟨i1, i2, vs, i3, i4⟩ := I1.info q hq
    refine ni_np hB S i1 i2 fun t1 s S => ?_
    walk_at "m"
    refine set_np hB S i1 i2 fun s S => ?_
    have I3 := I1.setNp hq (np q + (([.int p tp] : List Value).length : Nat))
    have e0 : np q + (([.int p tp] : List Value).length : Nat) = np q + 1 := by simp
    rw [e0] at S I3
    have hT2 := I3.ext D _ upd_self
    refine fld_in fun KK hKK => ?_
    refine wpAny_execs_cons ?_
    refine for_j 1 (fun i v => ([.int p tp] : List Value)[i]? = some v) (needT D [.int p tp]) (AoJ w σ₀ a nodes np su npo nfi p q tp tq D) S ?_ ?_ ?_ ?_ (by with_unfolding_all (intro _; rfl))
    · walk_at "m"
      exact iter_tuple R'.handled S hT2 fun it s r => ⟨_, _, r, _, _, _, rfl, rfl, I3⟩
    · rintro i l' σ' ⟨l5, l6, su', rfl, _, I4⟩; exact I4.ext D _ upd_self
    · rintro i v l' σ' φ'' s hi hv ⟨l5, l6, su', rfl, rfl, I4⟩ S
      have hi0 : i = 0 := by omega
      subst hi0
      simp at hv
      subst hv
      simp only [if_true] at I4
      obtain ⟨t3, t4, hdx⟩ := I4.hdx
      walk_at "m"
      refine meth_at hB S I4.hx hdx rfl rfl rfl (fun _ _ _ _ _ _ _ _ => rfl) ?_
      walk_at "m"
      refine gni_old hB (R'.less (by omega)) S I4 hp fun s S => ?_
      walk_at "m"
      obtain ⟨i1, i2, vs, i3, i4⟩ := I4.info p hp
      refine ni_su hB S i1 i2 fun s S => ?_
      walk_at "m"
      refine method_l S i3 PySem.F.slot_list_append PySem.F.type_list_append ?_
      walk_at "m"
      refine append_l S i3 (by rw [sizeLine_eq, i4.1]; simp; omega) fun s S => ?_
      walk_at "m"
      refine ⟨rfl, wpAny_execs_nil ?_⟩
      walk_at "m"
      exact ⟨_, _, ⟨_, _, _, rfl, rfl, I4.setSu hp (js := su p ++ [q]) (by simpa using i4.snoc q tq)⟩, S⟩
    · rintro l' σ' s ⟨l5, l6, su', rfl, rfl, I4⟩ S
      walk_at "m"
      exact ⟨_, _, S, fun s S => k _ s (I4.base (Ext.rfl.upd (I.ext.none hD))) S⟩
  · intro v σ' s'' h S''; exact h s'' S''
end
end
section
open PySem PySem.W PyProof.Rows
theorem meets_bool_new_list (a : Addr) (items : Array Value) (hfit : (items.size : Int) < 2 ^ 63) :
    Meets (Builtin.«bool.__new__» ⟨[.type "bool", .ref a], []⟩) (fun _ R s => s.heap.IsList a items ∧ R (.ok (.ret (.bool (!items.isEmpty)))) { s with toks := s.toks + 1 + 1 }) :=
  Meets.of_wp fun prog w A R s hs => by
    obtain ⟨hp, g, d, tk, os⟩ := s
    obtain ⟨hl, hs⟩ := hs
    have f1 := PySem.F.conv_sub_bool
    repeat (any_goals (first | assumption | (with_reducible refine PySem.wpAny_truthy_list hl hfit ?_) | wp_step))
    all_goals first | exact ⟨_, rfl, hs⟩ | exact hs | skip
section
variable {w : World} {B : Heap} {A : Around} {L : Addr} {N : List (Str × Option Addr)} {l : List (Option Value)} {σ : Own} {φ : Frz} {s₀ s : Shared} {E : Value → Shared → Prop} {env : Env}
theorem bool_l {prog : Program} {a : Addr} {vs : List Value} {Q : Value → Shared → Prop} (S : St B L N l σ φ s₀ s) (h : σ a = some (IsL vs)) (hz : vs.length < 1000000) (hq : ∀ s', St B L N l σ φ s₀ s' → Q (.bool (!vs.isEmpty)) s') :
    wpAny (model prog w) A (call (.type "bool") [.ref a]) Q E s := by
  refine call_bool_1 (meets_bool_new_list a vs.toArray (by simp; omega)) ?_
  refine ⟨S.list h, ?_⟩
  show wants _ _ _ _
  exact ⟨rfl, by simpa using hq _ (S.toks _)⟩
theorem tuple_of {prog : Program} {a : Addr} {vs : List Value} {Q : Value → Shared → Prop} (S : St B L N l σ φ s₀ s) (h : σ a = some (IsL vs)) (hz : vs.length < 10000) (hq : ∀ D s', σ D = none → St B L N l (upd σ D (IsTp vs)) φ s₀ s' → Q (.ref D) s') :
    wpAny (model prog w) A (call (.type "tuple") [.ref a]) Q E s := by
  refine PySem.call_tuple_list (S.list h) (fun h' hk => ?_) (by rw [sizeLine_eq]; simp; omega)
  have S1 : St B L N l σ φ s₀ { s with heap := h', toks := s.toks } := S.grow hk s.toks
  exact hq _ _ S1.fresh (S1.alloc (P := IsTp vs) rfl ⟨_, rfl⟩ s.toks)
variable {σ₀ : Own} {a : SA} {nodes : List Nat} {np : Nat → Int} {su : Nat → List Nat} {rd : Option (List Nat)} {npo nfi : Int} {rs : List Nat}
theorem act_spec (hB : Base w B) (R : Rm A 2) (S : St B L N l σ φ s₀ s) (I : Srt w σ₀ σ a nodes np su (some rs) npo nfi) (hrl : rs.length < 1000) {Q : Value → Shared → Prop}
  (k : ∀ s', St B L N l σ φ s₀ s' → Q (.bool (decide (nfi < npo) || !rs.isEmpty)) s') :
  wpAny (model PR w) A (call (.ref 141) [.ref a.x]) Q E s := by
  refine call_st [(nm "self", false)] [some (.ref a.x)] [(nm "bool", .type "bool")] (fun v σ' => ∀ s, St B L N l σ' φ s₀ s → Q v s)
    S (by have := R.depth; omega) hB.lim (hB.globs rfl) (hB.X _ _ rfl) rfl (codeRec_of hB.X rfl) rfl rfl rfl rfl rfl (cells_loc rfl) (no_cells rfl) (by decide) rfl (by walk_at "init") ?_ ?_
  · intro env A' L' κ φ' s' _ e eG dA S'
    have R' := R.deeper dA
    dsimp only [List.map] at S' e ⊢
    dsimp only [cond] at S' e ⊢
    obtain ⟨t3, t4, hdx⟩ := I.hdx
    obtain ⟨vs, hra, hvi⟩ := I.hra _ rfl
    refine fld_in fun KK hKK => ?_
    refine wpAny_execs_cons (wpAny_If ?_)
    walk_at "m"
    refine get_rdy hB S' I.hx hdx rfl fun s S => ?_
    walk_at "m"
    refine ite_f (by simp [rdv]) ?_
    walk_at "m"
    refine PySem.wpAny_Or2 ?_
    walk_at "m"
    refine get_nfi hB S I.hx hdx rfl fun s S => ?_
    walk_at "m"
    refine get_npo hB S I.hx hdx rfl fun s S => ?_
    walk_at "m"
    by_cases hlt : nfi < npo
    · refine ite_t (by simpa using hlt) ?_
      walk_at "m"
      exact ⟨_, _, S, fun s S => by have := k s S; rw [decide_eq_true hlt, Bool.true_or] at this; show Q (.bool (decide (nfi < npo))) s; rw [decide_eq_true hlt]; exact this⟩
    · refine ite_f (by simpa using hlt) ?_
      walk_at "m"
      refine get_rdy hB S I.hx hdx rfl fun s S => ?_
      walk_at "m"
      refine bool_l S hra (by rw [hvi.1]; simp; omega) fun s S => ?_
      walk_at "m"
      refine ⟨_, _, S, fun s S => ?_⟩
      have : vs.isEmpty = rs.isEmpty := by
        have h1 := hvi.1
        simp at h1
        cases vs <;> cases rs <;> simp at h1 ⊢
      rw [this]
      have := k s S
      rw [decide_eq_false hlt] at this
      exact this
  · intro v σ' s'' h S''; exact h s'' S''
theorem ready_spec (hB : Base w B) (R : Rm A 3) (S : St B L N l σ φ s₀ s) (I : Srt w σ₀ σ a nodes np su (some rs) npo nfi) (hrn : ∀ r ∈ rs, r ∈ nodes) (hrl : rs.length < 1000) {Q : Value → Shared → Prop}
  (k : ∀ D vs σ' s', σ D = none → σ' D = some (IsTp vs) → Ints vs (zi rs) → Srt w (upd σ₀ D (IsTp vs)) σ' a nodes (fun q => if q ∈ rs then -1 else np q) su (some []) (npo + rs.length) nfi → St B L N l σ' φ s₀ s' → Q (.ref D) s') :
  wpAny (model PR w) A (call (.ref 134) [.ref a.x]) Q E s := by
  refine call_st [(nm "self", false), (nm "result", false), (nm "n2i", false), (nm "node", false)] [some (.ref a.x), none, none, none] [(nm "tuple", .type "tuple"), (nm "_NODE_OUT", .int (-1) 250), (nm "len", .builtin "len")]
    (fun v σ' => ∀ s, St B L N l σ' φ s₀ s → Q v s)
    S (by have := R.depth; omega) hB.lim (hB.globs rfl) (hB.X _ _ rfl) rfl (codeRec_of hB.X rfl) rfl rfl rfl rfl rfl (cells_loc rfl) (no_cells rfl) (by decide) rfl (by walk_at "init") ?_ ?_
  · intro env A' L' κ φ' s' _ e eG dA S'
    have R' := R.deeper dA
    dsimp only [List.map] at S' e ⊢
    dsimp only [cond] at S' e ⊢
    obtain ⟨t3, t4, hdx⟩ := I.hdx
    obtain ⟨vs, hra, hvi⟩ := I.hra _ rfl
    have hvl : vs.length = rs.length := by have := hvi.1; simpa using this
    refine fld_in fun KK hKK => ?_
    refine wpAny_execs_cons (wpAny_If ?_)
    walk_at "m"
    refine get_rdy hB S' I.hx hdx rfl fun s S => ?_
    walk_at "m"
    refine ite_f (by simp [rdv]) ?_
    walk_at "m"
    refine get_rdy hB S I.hx hdx rfl fun s S => ?_
    walk_at "m"
    refine tuple_of S hra (by omega) fun D s hD S => ?_
    have I1 : Srt w (upd σ₀ D (IsTp vs)) (upd σ D (IsTp vs)) a nodes np su (some rs) npo nfi := I.own hD
    walk_at "m"
    obtain ⟨t3, t4, hdx⟩ := I1.hdx
    refine get_n2i hB S I1.hx hdx rfl fun s S => ?_
    walk_at "m"
    refine for_j vs.length (fun i v => vs[i]? = some v) (needT D vs) (fun i l' σ' => ∃ l4, l' = [some (.ref a.x), some (.ref D), some (.ref a.nd), l4] ∧ Srt w (upd σ₀ D (IsTp vs)) σ' a nodes (fun q => if q ∈ rs.take i then -1 else np q) su (some rs) npo nfi) S ?_ ?_ ?_ ?_ (by with_unfolding_all (intro _; rfl))
    · walk_at "m"
      exact iter_tuple R'.handled S upd_self fun it s r => ⟨_, _, r, _, rfl, by simpa using I1⟩
    · rintro i l' σ' ⟨l4, rfl, I4⟩; exact I4.ext D _ upd_self
    · rintro i v l' σ' φ'' s hi hv ⟨l4, rfl, I4⟩ S
      obtain ⟨z, t, hz, rfl⟩ := hvi.at hv
      obtain ⟨r, hr, rfl⟩ : ∃ r, rs[i]? = some r ∧ (r : Int) = z := by
        simp at hz; exact hz
      have hrm : r ∈ nodes := hrn r (List.mem_of_getElem? hr)
      obtain ⟨i1, i2, i3⟩ := I4.info r hrm
      walk_at "m"
      refine item_d S I4.hnd (valueAt_map hrm) fun s S => ?_
      walk_at "m"
      refine set_np hB S i1 i2 fun s S => ?_
      walk_at "m"
      refine ⟨_, _, ⟨_, rfl, (I4.setNp hrm (-1)).cong (fun q _ => ?_) (fun _ _ => rfl)⟩, S⟩
      have ht : rs.take (i + 1) = rs.take i ++ [r] := by rw [List.take_add_one, hr]; rfl
      rw [ht]
      by_cases e : q = r <;> simp [e]
    · rintro l' σ' s ⟨l4, rfl, I4⟩ S
      rw [List.take_of_length_le (by omega)] at I4
      obtain ⟨t3, t4, hdx⟩ := I4.hdx
      obtain ⟨us, hra, hui⟩ := I4.hra _ rfl
      walk_at "m"
      refine get_rdy hB S I4.hx hdx rfl fun s S => ?_
      walk_at "m"
      refine method_l S hra PySem.F.slot_list_clear PySem.F.type_list_clear ?_
      walk_at "m"
      refine clear_l S hra (by rw [sizeLine_eq, hui.1]; simp; omega) fun s S => ?_
      refine ⟨rfl, ?_⟩
      have I5 := I4.setRd (js := []) Ints.nil
      obtain ⟨t3, t4, hdx⟩ := I5.hdx
      walk_at "m"
      refine get_npo hB S I5.hx hdx rfl fun s S => ?_
      have hTD := I5.ext D _ upd_self
      have hfit : vs.length < 1000000 := by omega
      walk_at "m"
      refine len_t S hTD hfit fun t s S => ?_
      walk_at "m"
      refine set_npo hB S I5.hx hdx fun s S => ?_
      have I6 : ∀ t, _ := fun t => I5.setCnt (npo + vs.length) nfi t t4
      walk_at "m"
      refine ⟨_, _, S, fun s S => k _ _ _ s hD ((I6 _).ext D _ upd_self) hvi ?_ S⟩
      rw [← hvl]
      exact I6 _
  · intro v σ' s'' h S''; exact h s'' S''
end
end
section
open PySem PySem.W PyProof.Rows
section
variable {w : World} {B : Heap} {A : Around} {L : Addr} {N : List (Str × Option Addr)} {l : List (Option Value)} {σ : Own} {φ : Frz} {s₀ s : Shared} {E : Value → Shared → Prop} {env : Env}
variable {σ₀ : Own} {a : SA} {nodes : List Nat} {np : Nat → Int} {su : Nat → List Nat} {rd : Option (List Nat)} {npo nfi : Int} {rs : List Nat}
noncomputable def npDone (np : Nat → Int) (p : Nat) (js : List Nat) : Nat → Int := fun r => if r = p then -2 else np r - (js.count r : Nat)
noncomputable def rdDone (np : Nat → Int) (rs js : List Nat) : List Nat := rs ++ js.filter fun r => decide (np r = 1)
inductive DoJ (w : World) (σ₀ : Own) (a : SA) (nodes : List Nat) (np : Nat → Int) (su : Nat → List Nat) (rs : List Nat) (npo nfi : Int) (p : Nat) (tp : Tok) (D : Addr) (i : Nat) (l' : List (Option Value)) (σ' : Own) : Prop
  | mk (l4 l5 l6 l7 l8 : Option Value) (np' : Nat → Int) (rs' : List Nat) (nf' : Int) (h1 : l' = [some (.ref a.x), some (.ref D), some (.ref a.nd), l4, l5, l6, l7, l8]) (h2 : np' = (if i = 0 then np else npDone np p (su p))) (h3 : rs' = (if i = 0 then rs else rdDone np rs (su p))) (h4 : nf' = nfi + (i : Nat)) (h5 : Srt w (upd σ₀ D (IsTp [.int p tp])) σ' a nodes np' su (some rs') npo nf') : DoJ w σ₀ a nodes np su rs npo nfi p tp D i l' σ'
inductive DoK (w : World) (σ₀ : Own) (a : SA) (nodes : List Nat) (np : Nat → Int) (su : Nat → List Nat) (rs : List Nat) (npo nfi : Int) (p : Nat) (tp : Tok) (D : Addr) (vs : List Value) (t1 : Tok) (i : Nat) (l' : List (Option Value)) (σ' : Own) : Prop
  | mk (l7 l8 : Option Value) (h1 : l' = [some (.ref a.x), some (.ref D), some (.ref a.nd), some (.int p tp), some (.ref (a.inf p)), some (.int (np p) t1), l7, l8]) (h2 : σ' (a.sus p) = some (IsL vs)) (h3 : Srt w (upd σ₀ D (IsTp [.int p tp])) σ' a nodes (npDone np p ((su p).take i)) su (some (rdDone np rs ((su p).take i))) npo nfi) : DoK w σ₀ a nodes np su rs npo nfi p tp D vs t1 i l' σ'
theorem done_spec (hB : Base w B) (R : Rm A 3) (S : St B L N l σ φ s₀ s) (I : Srt w σ₀ σ a nodes np su (some rs) npo nfi) {p : Nat} {tp : Tok} (hp : p ∈ nodes) (hnp : np p = -1) (hjs : (su p).length ≤ 1) (hjm : ∀ r ∈ su p, r ∈ nodes ∧ r ≠ p) (hrl : rs.length < 1000) {Q : Value → Shared → Prop}
  (k : ∀ σ' s', Srt w σ₀ σ' a nodes (npDone np p (su p)) su (some (rdDone np rs (su p))) npo (nfi + 1) → St B L N l σ' φ s₀ s' → Q .none s') :
  wpAny (model PR w) A (call (.ref 155) [.ref a.x, .int p tp]) Q E s := by
  refine wpAny_call (code_star (vs := [.int p tp]) (binds := fun D => [(nm "self", .ref a.x), (nm "nodes", .ref D)]) [nm "self", nm "nodes", nm "n2i", nm "node", nm "nodeinfo", nm "stat", nm "successor", nm "successor_info"] (fun D => [some (.ref a.x), some (.ref D), none, none, none, none, none, none]) [(nm "_NODE_OUT", .int (-1) 250), (nm "_NODE_DONE", .int (-2) 253)]
    (fun v σ' => ∀ s, St B L N l σ' φ s₀ s → Q v s)
    hB S (by have := R.depth; omega) (hB.globs rfl) (hB.X _ _ rfl) rfl (codeRec_of hB.X rfl) rfl rfl (fun _ => rfl) (by decide) (fun D => locs rfl) (by decide) rfl rfl rfl ?_ ?_ ?_)
  · intro D h; repeat' (first | exact Vars.nil | refine Vars.loc ?_ ?_ | (intro u e; cases e; rfl) | (intro u e; cases e))
  · intro env A' L' φ' s' D hD e eG dA S'
    have R' := R.deeper dA
    have I1 : Srt w (upd σ₀ D (IsTp [.int p tp])) (upd σ D (IsTp [.int p tp])) a nodes np su (some rs) npo nfi := I.own hD
    dsimp only [List.map] at S' e ⊢
    obtain ⟨t3, t4, hdx⟩ := I1.hdx
    refine fld_in fun KK hKK => ?_
    refine wpAny_execs_cons (wpAny_If ?_)
    walk_at "m"
    refine get_rdy hB S' I1.hx hdx rfl fun s S => ?_
    walk_at "m"
    refine ite_f (by simp [rdv]) ?_
    walk_at "m"
    refine get_n2i hB S I1.hx hdx rfl fun s S => ?_
    walk_at "m"
    refine for_j 1 (fun i v => ([.int p tp] : List Value)[i]? = some v) (needT D [.int p tp]) (DoJ w σ₀ a nodes np su rs npo nfi p tp D) S ?_ ?_ ?_ ?_ (by with_unfolding_all (intro _; rfl))
    · walk_at "m"
      exact iter_tuple R'.handled S upd_self fun it s r => ⟨_, _, r, _, _, _, _, _, _, _, _, rfl, rfl, rfl, rfl, by simpa using I1⟩
    · rintro i l' σ' ⟨l4, l5, l6, l7, l8, np', rs', nf', rfl, _, _, _, I4⟩; exact I4.ext D _ upd_self
    · rintro i v l' σ' φ'' s hi hv ⟨l4, l5, l6, l7, l8, np', rs', nf', rfl, e1, e2, e3, I4⟩ S
      have hi0 : i = 0 := by omega
      subst hi0
      simp only [if_true] at e1 e2
      have e3' : nf' = nfi := by simpa using e3
      rw [e1, e2, e3'] at I4
      clear e1 e2
      simp only [List.getElem?_cons_zero, Option.some.injEq] at hv
      subst hv
      obtain ⟨t3, t4, hdx⟩ := I4.hdx
      obtain ⟨i1, i2, vs, i3, i4⟩ := I4.info p hp
      walk_at "m"
      refine wpAny_If ?_
      walk_at "m"
      refine meth_d S I4.hnd PySem.F.slot_dict_get PySem.F.type_dict_get ?_
      walk_at "m"
      refine get_d hB S I4.hnd fun s S => ?_
      rw [valueAt_map hp]
      dsimp only [Option.getD]
      walk_at "m"
      refine ite_f (by simp) ?_
      walk_at "m"
      refine ni_np hB S i1 i2 fun t1 s S => ?_
      walk_at "m"
      refine wpAny_If ?_
      walk_at "m"
      refine ite_f (by simp [hnp]) ?_
      walk_at "m"
      refine set_np hB S i1 i2 fun s S => ?_
      have I5 := I4.setNp hp (-2)
      walk_at "m"
      obtain ⟨i1, i2, vs, i3, i4⟩ := I5.info p hp
      have hvl : vs.length = (su p).length := by have := i4.1; simpa using this
      refine for_j vs.length (fun i v => vs[i]? = some v) (needL (a.sus p) vs) (DoK w σ₀ a nodes np su rs npo nfi p tp D vs t1) S ?_ ?_ ?_ ?_ (by with_unfolding_all (intro _; rfl))
      · walk_at "m"
        refine ni_su hB S i1 i2 fun s S => ?_
        walk_at "m"
        refine iter_list R'.handled S i3 fun it s r => ⟨_, _, r, _, _, rfl, i3, ?_⟩
        have : (some (rdDone np rs ((su p).take 0))) = some rs := by simp [rdDone]
        rw [this]
        exact I5.cong (fun q _ => by simp [npDone]) (fun _ _ => rfl)
      · rintro i l' σ' ⟨l7, l8, rfl, h, _⟩; exact h
      · rintro i v l' σ' φ'' s hi hv ⟨l7, l8, rfl, hsu, I6⟩ S
        obtain ⟨z, tz, hz, rfl⟩ := i4.at hv
        obtain ⟨r, hr, rfl⟩ : ∃ r, (su p)[i]? = some r ∧ (r : Int) = z := by
          simp at hz; exact hz
        have hi0 : i = 0 := by (clear e3' e3 hrl hnp; omega)
        subst hi0
        have hsp : su p = [r] := by
          match hh : su p with
          | [] => rw [hh] at hr; cases hr
          | [x] => rw [hh] at hr; simp at hr; rw [hr]
          | x :: y :: z => rw [hh] at hjs; simp at hjs
        have hrm := hjm r (List.mem_of_getElem? hr)
        obtain ⟨j1, j2, us, j3, j4⟩ := I6.info r hrm.1
        have hn0 : npDone np p ((su p).take 0) r = np r := by simp [npDone, hrm.2]
        rw [hn0] at j1
        walk_at "m"
        refine item_d S I6.hnd (valueAt_map hrm.1) fun s S => ?_
        walk_at "m"
        refine ni_np hB S j1 j2 fun t9 s S => ?_
        walk_at "m"
        refine set_np hB S j1 j2 fun s S => ?_
        have I7 := I6.setNp hrm.1 (np r - 1)
        have e1 : ∀ q ∈ nodes, (if q = r then np r - 1 else npDone np p ((su p).take 0) q) = npDone np p ((su p).take (0 + 1)) q := fun q _ => by
          rw [hsp]
          by_cases c : q = r
          · subst c; simp [npDone, hrm.2]
          · simp [npDone, c, Ne.symm c, List.count_cons]
        have I8 := I7.cong (np' := npDone np p ((su p).take (0 + 1))) (su' := su) e1 (fun _ _ => rfl)
        have hsu2 : upd σ' (a.inf r) (IsNi r (np r - 1) (a.sus r) (a.idx r)) (a.sus p) = some (IsL vs) := by
          rw [upd_ne (tag_ne (I6.tin p hp).2.2 (I6.tin r hrm.1).1 (by simp))]; exact hsu
        have er0 : rdDone np rs ((su p).take 0) = rs := by simp [rdDone]
        rw [er0] at I8
        walk_at "m"
        obtain ⟨j1, j2, us, j3, j4⟩ := I8.info r hrm.1
        have hn1 : npDone np p ((su p).take (0 + 1)) r = np r - 1 := by rw [← e1 r hrm.1]; simp
        rw [hn1] at j1
        refine if_j (fun l' σ' => ∃ l7 l8, l' = [some (.ref a.x), some (.ref D), some (.ref a.nd), some (.int p tp), some (.ref (a.inf p)), some (.int (np p) t1), l7, l8] ∧ σ' (a.sus p) = some (IsL vs) ∧
          Srt w (upd σ₀ D (IsTp [.int p tp])) σ' a nodes (npDone np p ((su p).take (0 + 1))) su (some (rdDone np rs ((su p).take (0 + 1)))) npo nfi) S ?_ ?_
        · walk_at "m"
          refine ni_np hB S j1 j2 fun t9 s S => ?_
          walk_at "m"
          by_cases c : np r = 1
          · refine ite_t (by simp; (clear hn1 hn0 hi hvl e3' e3 hrl hjs; omega)) ?_
            obtain ⟨t3, t4, hdx⟩ := I8.hdx
            obtain ⟨xs, hra, hxi⟩ := I8.hra _ rfl
            walk_at "m"
            refine get_rdy hB S I8.hx hdx rfl fun s S => ?_
            walk_at "m"
            refine method_l S hra PySem.F.slot_list_append PySem.F.type_list_append ?_
            walk_at "m"
            refine append_l S hra (by rw [sizeLine_eq, hxi.1]; simp; (clear hn1 hn0 hi hvl e3' e3 hjs hnp; omega)) fun s S => ?_
            refine ⟨rfl, ?_⟩
            have I9 := I8.setRd (js := rs ++ [r]) (by simpa using hxi.snoc r tz)
            have e5 : rdDone np rs ((su p).take (0 + 1)) = rs ++ [r] := by rw [hsp]; simp [rdDone, c]
            walk_at "m"
            rw [e5]
            refine ⟨rfl, _, _, ⟨_, _, rfl, ?_, I9⟩, S⟩
            rw [upd_ne (tag_ne (I8.tin p hp).2.2 (I8.tra rfl) (by simp))]; exact hsu2
          · refine ite_f (by simp; (clear hn1 hn0 hi hvl e3' e3 hrl hjs; omega)) ?_
            have e5 : rdDone np rs ((su p).take (0 + 1)) = rs := by rw [hsp]; simp [rdDone, c]
            walk_at "m"
            rw [e5]
            exact ⟨rfl, _, _, ⟨_, _, rfl, hsu2, I8⟩, S⟩
        · rintro l' σ' s ⟨l7, l8, rfl, h1, h2⟩ S
          walk_at "m"
          exact ⟨_, _, ⟨_, _, rfl, h1, h2⟩, S⟩
      · rintro l' σ' s ⟨l7, l8, rfl, h1, I6⟩ S
        rw [List.take_of_length_le (by omega)] at I6
        obtain ⟨t3, t4, hdx⟩ := I6.hdx
        walk_at "m"
        refine get_nfi hB S I6.hx hdx rfl fun s S => ?_
        walk_at "m"
        refine set_nfi hB S I6.hx hdx fun s S => ?_
        walk_at "m"
        exact ⟨_, _, ⟨_, _, _, _, _, _, _, _, rfl, rfl, rfl, rfl, by simpa using I6.setCnt npo (nfi + 1) t3 _⟩, S⟩
    · rintro l' σ' s ⟨l4, l5, l6, l7, l8, np', rs', nf', rfl, rfl, rfl, rfl, I4⟩ S
      walk_at "m"
      exact ⟨_, _, S, fun s S => k _ s (by simpa using I4.base (Ext.rfl.upd (I.ext.none hD))) S⟩
  · intro v σ' s'' h S''; exact h s'' S''
end
end
section
open PySem PySem.W PyProof.Rows
section
variable {prog : Program} {w : World} {B : Heap} {A : Around} {L : Addr} {N : List (Str × Option Addr)} {l : List (Option Value)} {σ : Own} {φ : Frz} {s₀ s : Shared} {E : Value → Shared → Prop} {env : Env}
theorem Outer.mem {L' : Addr} : ∀ {l : List Env}, Outer φ B l → L' ∈ l.filterMap (·.frame) → B.get? L' = none ∧ ∃ P, φ L' = some P ∧ (∀ o, P o → ∃ es ep, o.data = .dict es ep) ∧ (∀ (o : Obj) sl, P o → P { o with slots := sl })
  | env :: r, ⟨_, ⟨L1, P, h2, h3, h4, h5, h6⟩, h7⟩, h => by
    rw [List.filterMap_cons, h2] at h
    rcases List.mem_cons.mp h with e | h
    · subst e; exact ⟨h3, P, h4, h5, h6⟩
    · exact Outer.mem h7 h
theorem Outer.fun (S : St B L N l σ φ s₀ s) : ∀ {l : List Env}, Outer φ B l → s.heap.FunFrames B l
  | [], _ => trivial
  | env :: r, ⟨h1, ⟨L1, P, h2, h3, h4, h5, h6⟩, h7⟩ => by
    obtain ⟨o, ho, p⟩ := S.frm L1 P h4
    obtain ⟨es, ep, hd⟩ := h5 o p
    exact ⟨h1, ⟨L1, o, h2, h3, ho, fun vs c => by rw [hd] at c; cases c⟩, Outer.fun S h7⟩
theorem Fm.fun {outer : List Env} (S : St B L N l σ φ s₀ s) (hm : env.scope.kind ≠ .module) (hf : env.frame = some L) (ho : Outer φ B outer) : s.heap.FunFrames B (env :: outer) := by
  obtain ⟨m, ⟨oL, es, ep, hL, hd, _⟩, _⟩ := S.vars
  exact ⟨hm, ⟨L, oL, hf, S.offB, hL, fun vs c => by rw [hd] at c; cases c⟩, ho.fun S⟩
theorem St.slots {outer : List Env} {h₁ : Heap} (S : St B L N l σ φ s₀ s) (hf : env.frame = some L) (ho : Outer φ B outer) (hs : Heap.SlotsOnly ((env :: outer).filterMap (·.frame)) s.heap h₁) : St B L N l σ φ s₀ { s with heap := h₁ } := by
  have mem : ∀ a, a ∈ (env :: outer).filterMap (·.frame) → a = L ∨ a ∈ outer.filterMap (·.frame) := fun a h => by
    rw [List.filterMap_cons, hf] at h; exact List.mem_cons.mp h
  have keep : ∀ a o, a ≠ L → φ a = none → s.heap.get? a = some o → h₁.get? a = some o := fun a o h1 h2 e => by
    rw [hs.2.1 a]; exact e
    intro c
    rcases mem a c with c | c
    · exact h1 c
    · obtain ⟨_, P, hP, _⟩ := ho.mem c; rw [h2] at hP; cases hP
  obtain ⟨m, ⟨oL, es, ep, hL, hd, r⟩, hv⟩ := S.vars
  obtain ⟨sl, hL'⟩ := hs.2.2 L oL hL
  exact { S with
    base := fun b o e => by
      show h₁.get? b = some o
      rw [hs.2.1 b]; exact S.base b o e
      intro c
      rcases mem b c with c | c
      · subst c; rw [S.offB] at e; cases e
      · rw [(ho.mem c).1] at e; cases e
    vars := ⟨m, ⟨_, es, ep, hL', hd, r⟩, hv.heap fun x c v hm ⟨o, q, r⟩ => ⟨o, keep c o (S.cells x c hm).1 (S.cells x c hm).2.2.2 q, r⟩⟩
    own := fun a P e => by
      obtain ⟨o, ho', p⟩ := S.own a P e
      have hne : σ a ≠ none := by rw [e]; exact fun e => by cases e
      exact ⟨o, keep a o (fun c => by subst c; exact hne S.offσ) (S.apart a hne) ho', p⟩
    frm := fun a P e => by
      obtain ⟨o, ho', p⟩ := S.frm a P e
      by_cases c : a ∈ (env :: outer).filterMap (·.frame)
      · rcases mem a c with c | c
        · subst c; rw [S.offφ] at e; cases e
        · obtain ⟨_, P', hP', _, h6⟩ := ho.mem c
          rw [e] at hP'; cases hP'
          obtain ⟨sl, h'⟩ := hs.2.2 a o ho'
          exact ⟨_, h', h6 o sl p⟩
      · exact ⟨o, (hs.2.1 a c).trans ho', p⟩ }
/-- an exception that was just raised; one that was noted; its note -/
def IsExc (X : String) (o : Obj) : Prop := o.cls = .type X ∧ ∃ vs, o.data = .fields vs ∧ vs[1]? = some .none
def IsNoted (X : String) (T : Addr) (o : Obj) : Prop := o.cls = .type X ∧ ∃ vs, o.data = .fields vs ∧ vs[1]? = some (.ref T)
def IsTb (o : Obj) : Prop := ∃ vs, o.data = .fields vs ∧ 3 < vs.size
theorem note_f {X : String} {e : Addr} {Q : Unit → Shared → Prop} (F : Fm A φ B env L) (S : St B L N l σ φ s₀ s) (he : σ e = some (IsExc X)) (h : ∀ T s', σ T = none → St B L N l (upd (upd σ T IsTb) e (IsNoted X T)) φ s₀ s' → Q () s') :
    wpAny (model prog w) A (noteFrame (.ref e) env) Q E s := by
  obtain ⟨outer, f1, f2, f3, f4⟩ := F
  obtain ⟨oe, hoe, hcls, vs, hd, h1⟩ := S.own e _ he
  have hsz : 1 < vs.size := (Array.getElem?_eq_some_iff.mp h1).1
  unfold noteFrame
  simp only [f3]
  refine wpAny_bind (wpAny_field hoe hd h1 ?_)
  rw [if_neg (by decide)]
  refine wpAny_bind (wpAny_frameOf_fun f1 (Fm.fun S f2 f3 f4) f3 fun h₁ hs₁ => ?_)
  have S1 := S.slots f3 f4 hs₁
  refine wpAny_bind (wpAny_entryPlaceOf fun pl hpl => ?_)
  unfold EntryCells.newEntry newFields
  refine wpAny_bind (wpAny_newObj_type ?_ (hpl.sizeOk5 _ _ _ _ _))
  have S2 := S1.alloc (o := { cls := .type "traceback", dict := none, data := .fields ([Value.none, .ref L, .none, rawInt L, .none] ++ (if pl.isEmpty then List.replicate 6 Value.none else pl)).toArray }) (P := IsTb) rfl ⟨_, rfl, by simp only [List.size_toArray, List.length_append, List.length_cons, List.length_nil] <;> omega⟩ s.toks
  have hT := S1.fresh
  have hne : e ≠ h₁.objs.size := fun c => by rw [← c] at hT; rw [he] at hT; cases hT
  have he2 : upd σ h₁.objs.size IsTb e = some (IsExc X) := by rw [upd_ne hne]; exact he
  obtain ⟨oe2, hoe2, hcls2, vs2, hd2, h12⟩ := S2.own e _ he2
  have hsz2 : 1 < vs2.size := (Array.getElem?_eq_some_iff.mp h12).1
  refine wpAny_setField hoe2 hd2 hsz2 ?_
  have hd3 := Obj.data_mapFields hd2 (·.setIfInBounds 1 (Value.ref h₁.objs.size))
  have S3 := S2.change (P := IsNoted X h₁.objs.size) he2 (KeepBut.of (Heap.SameBut.update ..)) ⟨_, Heap.get?_update_self (Obj.mapFields (·.setIfInBounds 1 (Value.ref h₁.objs.size))) hoe2 (Obj.isFreed_of_fields hd3), (Obj.cls_mapFields ..).trans hcls2, _, hd3, by simp [hsz2]⟩ s.toks
  exact h _ _ hT S3
theorem flight_f {X : String} {e T : Addr} {Q : Unit → Shared → Prop} (S : St B L N l (upd (upd σ T IsTb) e (IsNoted X T)) φ s₀ s) (hne : e ≠ T) (h : ∀ s', St B L N l (upd (upd σ T IsTb) e (IsNoted X T)) φ s₀ s' → Q () s') :
    wpAny (model prog w) A (setFlight (.ref e) none) Q E s := by
  obtain ⟨oe, hoe, hcls, vs, hd, h1⟩ := S.own e _ upd_self
  have hTT : upd (upd σ T IsTb) e (IsNoted X T) T = some IsTb := by rw [upd_ne (Ne.symm hne), upd_self]
  obtain ⟨oT, hoT, ts, hdT, hsz⟩ := S.own T _ hTT
  refine wpAny_setFlight_none hoe hd h1 hoT hdT hsz ?_
  have hd3 := Obj.data_mapFields hdT (·.setIfInBounds 3 Value.none)
  have S3 := S.change (P := IsTb) hTT (KeepBut.of (Heap.SameBut.update ..)) ⟨_, Heap.get?_update_self (Obj.mapFields (·.setIfInBounds 3 Value.none)) hoT (Obj.isFreed_of_fields hd3), _, hd3, by simpa using hsz⟩ s.toks
  rw [upd_comm hne, upd_upd] at S3
  exact h _ S3
theorem sub_stop_base : isSubtype (.type "StopIteration") (.type "BaseException") = pure true := by rw [isSubtype_type]; kernel_rfl
theorem sub_stop_nt : isSubtype (.type ((Manifest.find? "StopIteration").elim "type" fun x => x.metatype)) (.type "tuple") = pure false := by
  rw [isSubtype_type]; kernel_rfl
/-- a StopIteration is caught -/
theorem catch_stop {e : Addr} {t : Expr} {b₀ : Stmt} {suite : List Stmt} {pos : Pos} {Q : Flow → Shared → Prop} (F : Fm A φ B env L) (S : St B L N l (upd σ e (IsExc "StopIteration")) φ s₀ s) (he : σ e = none)
    (ht : ∀ A' s' σ' (Q : Value → Shared → Prop) E, St B L N l σ' φ s₀ s' → Q (.type "StopIteration") s' → wpAny (model prog w) A' (eval t env) Q E s')
    (h : ∀ s', St B L N l σ φ s₀ s' → wpAny (model prog w) (A.mark (some (.ref e))) (execs (b₀ :: suite) env) Q Nev s') :
    wpAny (model prog w) A (noteFrame (.ref e) env) (fun _ s₂ => wpAny (model prog w) A (setFlight (.ref e) none) (fun _ s₃ => wpAny (model prog w) A (handleBy (.ref e) env [.ExceptHandler (some t) none (b₀ :: suite) pos]) Q E s₃) E s₂) E s := by
  refine note_f F S upd_self fun T s1 hT S1 => ?_
  have hne : e ≠ T := (by first | exact ne_sn hT upd_self | exact ne_ns hT upd_self | exact ne_sn upd_self hT | exact ne_ns upd_self hT)
  have hT0 : σ T = none := by rwa [upd_ne (Ne.symm hne)] at hT
  have e0 : upd (upd (upd σ e (IsExc "StopIteration")) T IsTb) e (IsNoted "StopIteration" T) = upd (upd σ T IsTb) e (IsNoted "StopIteration" T) := by
    rw [upd_comm hne, upd_upd]
  rw [e0] at S1
  refine flight_f S1 hne fun s2 S2 => ?_
  refine wpAny_handleBy_builtin (X := "StopIteration") (T := "StopIteration") (b := true) sub_stop_base sub_stop_nt (by rw [isSubtype_type]; kernel_rfl) ?_
  refine ht _ _ _ _ _ S2 ⟨rfl, ?_, ?_⟩
  · obtain ⟨oe, hoe, hcls, _⟩ := S2.own e _ upd_self
    exact ⟨oe, hoe, hcls⟩
  · simp only [if_true]
    refine flight_f S2 hne fun s3 S3 => ?_
    refine wpAny_mono (h s3 (S3.forget fun a P q => ?_)) (fun _ _ x => x) fun _ _ x => x.elim
    rw [upd_ne ((by first | exact ne_sn q he | exact ne_ns q he | exact ne_sn he q | exact ne_ns he q)), upd_ne ((by first | exact ne_sn q hT0 | exact ne_ns q hT0 | exact ne_sn hT0 q | exact ne_ns hT0 q))]; exact q
end
end
section
open PySem PySem.W PyProof.Rows
theorem slot_li_ga : Slot "list_iterator" "__getattribute__" "object.__getattribute__" :=
  .of (owner := "object") (n := "__getattribute__") (by rw [typeLookup_type, builtinLookup_eq_fast]; kernel_rfl) (by decide +kernel) (by decide +kernel) (by decide +kernel)
    (by first | exact .inl (by decide +kernel) | exact .inr (by decide +kernel)) (by rw [isSubtype_type]; kernel_rfl)
theorem slot_wd_get : Slot "wrapper_descriptor" "__get__" "wrapper_descriptor.__get__" :=
  .of (owner := "wrapper_descriptor") (n := "__get__") (by rw [typeLookup_type, builtinLookup_eq_fast]; kernel_rfl) (by decide +kernel) (by decide +kernel) (by decide +kernel)
    (by first | exact .inl (by decide +kernel) | exact .inr (by decide +kernel)) (by rw [isSubtype_type]; kernel_rfl)
theorem entry_wd_get : entryFor table "wrapper_descriptor.__get__" = some Builtin.«wrapper_descriptor.__get__» := entryFor_of_tree (by kernel_rfl)
theorem args_wd_get (a b c : Value) : argsOk "wrapper_descriptor.__get__" ⟨[a, b, c], []⟩ := by unfold argsOk; kernel_rfl
theorem type_li_next : typeOf (.builtin "list_iterator.__next__") = pure (.type "wrapper_descriptor") := by first | kernel_rfl | (show builtinType _ = _; rw [builtinType_eq_fast]; kernel_rfl)
theorem lk_wd_set : typeLookup (.type "wrapper_descriptor") "__set__" = pure none := by rw [typeLookup_type, builtinLookup_eq_fast]; kernel_rfl
theorem lk_wd_del : typeLookup (.type "wrapper_descriptor") "__delete__" = pure none := by rw [typeLookup_type, builtinLookup_eq_fast]; kernel_rfl
theorem sub_li_li : isSubtype (.type "list_iterator") (.type (".".intercalate ("list_iterator.__next__".cutAt '.').dropLast)) = pure true := by
  have e0 : "list_iterator.__next__".cutAt '.' = ["list_iterator", "__next__"] := by first | rfl | decide +kernel
  rw [e0]
  have e1 : (".".intercalate (["list_iterator", "__next__"] : List String).dropLast) = "list_iterator" := by decide +kernel
  rw [e1, isSubtype_type]; kernel_rfl
/-- the bound method of a list's iterator -/
noncomputable def boundNext (I : Addr) : Obj := { cls := .type "method-wrapper", data := .fields #[.builtin "list_iterator.__next__", .ref I] }
section
variable {prog : Program} {w : World} {A : Around} {E : Value → Shared → Prop} {h : Heap} {g : Array GenState} {d : Drawn} {t : Nat} {os : OsState} {a : Addr} {o : Obj}
theorem li_get {R : Result → Shared → Prop} (hx : h.get? a = some o) (hc : o.cls = .type "list_iterator") (hq : R (.ok (.ret (.ref h.objs.size))) ⟨h.push (boundNext a), g, d, t, os⟩) :
    codeAny (model prog w) A (.call (.builtin "wrapper_descriptor.__get__") ⟨[.builtin "list_iterator.__next__", .ref a, .type "list_iterator"], []⟩) R ⟨h, g, d, t, os⟩ := by
  have hT : (⟨h, g, d, t, os⟩ : Shared).TypeIs (.ref a) "list_iterator" := ⟨_, hx, hc⟩
  have hT5 : (⟨h, g, d, t, os⟩ : Shared).TypeIs (.builtin "list_iterator.__next__") "wrapper_descriptor" := type_li_next
  have f8 := sub_li_li
  refine codeAny_call_builtin slot_wd_get.plain entry_wd_get (slot_wd_get.check _ _ _ _ _ _ _ _ hT5 (args_wd_get _ _ _) ?_)
  repeat (any_goals (first | assumption | wp_step))
theorem li_entry {tk : Tok} {Q : Fin → Shared → Prop} {vs : Array Value} {sl : Array (Option Value)} (hx : h.get? a = some { cls := .type "list_iterator", dict := none, data := .fields vs, slots := sl }) (hq : Q (.done (.ret (.ref h.objs.size))) ⟨h.push (boundNext a), g, d, t, os⟩) :
    wpAny (model prog w) A (Builtin.«object.__getattribute__» ⟨[.ref a, .str "__next__" tk], []⟩) Q E ⟨h, g, d, t, os⟩ := by
  have hT : (⟨h, g, d, t, os⟩ : Shared).TypeIs (.ref a) "list_iterator" := ⟨_, hx, rfl⟩
  have hT5 : (⟨h, g, d, t, os⟩ : Shared).TypeIs (.builtin "list_iterator.__next__") "wrapper_descriptor" := type_li_next
  have f4 := slot_listiter_next.lookup
  have f5 := type_li_next
  have f6 := slot_wd_get.lookup
  have f7 := lk_wd_set
  have f8 := lk_wd_del
  repeat (any_goals (first | assumption | wp_step))
  refine li_get hx rfl ?_
  repeat (any_goals (first | assumption | wp_step))
theorem li_call {tk : Tok} {R : Result → Shared → Prop} {vs : Array Value} {sl : Array (Option Value)} (hx : h.get? a = some { cls := .type "list_iterator", dict := none, data := .fields vs, slots := sl }) (hq : R (.ok (.ret (.ref h.objs.size))) ⟨h.push (boundNext a), g, d, t, os⟩) :
    codeAny (model prog w) A (.call (.builtin "object.__getattribute__") ⟨[.ref a, .str "__next__" tk], []⟩) R ⟨h, g, d, t, os⟩ :=
  codeAny_call_builtin slot_li_ga.plain PySem.F.entry_object_getattribute (slot_li_ga.check _ _ _ _ _ _ _ _ (show (⟨h, g, d, t, os⟩ : Shared).TypeIs (.ref a) "list_iterator" from ⟨_, hx, rfl⟩) (PySem.F.args_object_getattribute_2 _ _) (li_entry hx hq))
theorem li_by {tk : Tok} {Q : Value → Shared → Prop} {vs : Array Value} {sl : Array (Option Value)} (hx : h.get? a = some { cls := .type "list_iterator", dict := none, data := .fields vs, slots := sl }) (hq : Q (.ref h.objs.size) ⟨h.push (boundNext a), g, d, t, os⟩) :
    wpAny (model prog w) A (getAttrBy (.ref a) (.str "__next__" tk) true true) Q E ⟨h, g, d, t, os⟩ := by
  have hT : (⟨h, g, d, t, os⟩ : Shared).TypeIs (.ref a) "list_iterator" := ⟨_, hx, rfl⟩
  have f2 := slot_li_ga.lookup
  have f3 := slot_li_ga.bind (.ref a)
  repeat (any_goals (first | assumption | wp_step))
  refine li_call hx ?_
  repeat (any_goals (first | assumption | wp_step))
end
section
variable {prog : Program} {w : World} {A : Around} {E : Value → Shared → Prop} {s : Shared} {a : Addr}
theorem li_attr {Q : Value → Shared → Prop} {vs : Array Value} {sl : Array (Option Value)} (hx : s.heap.get? a = some { cls := .type "list_iterator", dict := none, data := .fields vs, slots := sl }) (hq : Q (.ref s.heap.objs.size) { s with heap := s.heap.push (boundNext a), toks := s.toks + 1 }) :
    wpAny (model prog w) A (getAttr (.ref a) (Str.ofString "__next__") true) Q E s := by
  obtain ⟨h, g, d, t, os⟩ := s
  unfold getAttr
  repeat (any_goals (first | assumption | with_reducible apply li_by hx | wp_step))
end
end
section
open PySem PySem.W PyProof.Rows
def IsLi (a : Addr) (i : Nat) (o : Obj) : Prop := o.cls = .type "list_iterator" ∧ o.data = .fields #[.ref a, .int i 0]
def IsBn (I : Addr) (o : Obj) : Prop := o = boundNext I
theorem quiet_li {as : Args} : (Code.builtin "list_iterator.__next__" as).quiet = true := Code.quiet_builtin _ (by decide +kernel)
theorem check_li {I : Addr} : checkBoundCall "list_iterator.__next__" ⟨[.ref I], []⟩ = pure () := by first | kernel_rfl | rfl
section
variable {prog : Program} {w : World} {B : Heap} {A : Around} {L : Addr} {N : List (Str × Option Addr)} {l : List (Option Value)} {σ : Own} {φ : Frz} {s₀ s : Shared} {E : Value → Shared → Prop} {env : Env}
theorem iter_b {a : Addr} {vs : List Value} {Q : Value → Shared → Prop} (S : St B L N l σ φ s₀ s) (h : σ a = some (IsL vs))
    (hq : ∀ I s', σ I = none → St B L N l (upd σ I (fun o => o = { cls := .type "list_iterator", dict := none, data := .fields #[.ref a, .int (0 : Nat) 0], slots := #[] })) φ s₀ s' → Q (.ref I) s') : wpAny (model prog w) A (call (.builtin "iter") [.ref a]) Q E s := by
  refine PySem.Calls.call_function_entry (by decide +kernel) (by decide +kernel) kdk_entry_iter (kdk_args_iter _) ?_
  unfold Builtin.«iter»
  refine wpAny_bind (m := someArgs "iter" 1 2 _) (wpAny_of_eq (a := [Value.ref a]) (by first | rfl | kernel_rfl!) ?_)
  show wpAny _ _ (pyIter (.ref a) >>= _) _ _ _
  refine wpAny_bind (wpAny_pyIter_list (S.list h) ?_)
  exact wpAny_pure ⟨_, rfl, hq _ _ S.fresh (S.alloc (P := fun o => o = { cls := .type "list_iterator", dict := none, data := .fields #[.ref a, .int (0 : Nat) 0], slots := #[] }) rfl rfl s.toks)⟩
theorem attr_next {a I : Addr} {Q : Value → Shared → Prop} (S : St B L N l (upd σ I (fun o => o = { cls := .type "list_iterator", dict := none, data := .fields #[.ref a, .int (0 : Nat) 0], slots := #[] })) φ s₀ s) (hI : σ I = none)
    (hq : ∀ u s', σ u = none → u ≠ I → St B L N l (upd (upd σ I (IsLi a 0)) u (IsBn I)) φ s₀ s' → Q (.ref u) s') : wpAny (model prog w) A (getAttr (.ref I) (Str.ofString "__next__") true) Q E s := by
  obtain ⟨o, ho, rfl⟩ := S.own I _ upd_self
  refine li_attr ho ?_
  have hu := S.fresh
  have hne : s.heap.objs.size ≠ I := (by first | exact ne_sn hu upd_self | exact ne_ns hu upd_self | exact ne_sn upd_self hu | exact ne_ns upd_self hu)
  have S1 := (S.say (P' := IsLi a 0) upd_self fun o _ e => ⟨by rw [e], by rw [e]⟩)
  rw [upd_upd] at S1
  have S2 := S1.alloc (o := boundNext I) (P := IsBn I) rfl rfl (s.toks + 1)
  exact hq _ _ (by rwa [upd_ne hne] at hu) hne S2
/-- a bound method is called by name -/
theorem callWith_bn {pos : Pos} {u I : Addr} {Q : Value → Shared → Prop} (S : St B L N l σ φ s₀ s) (hu : σ u = some (IsBn I)) (h : wpAny (model prog w) A (call (.ref u) []) Q E s) :
    wpAny (model prog w) A (callWith pos (.ref u) [] [] []) Q E s := by
  obtain ⟨o, ho, rfl⟩ := S.own u _ hu
  unfold callWith
  refine wpAny_bind (wpAny_holding ?_)
  refine evalArgs_nil3 ?_
  refine wpAny_bind (wpAny_standAt ?_)
  simp only [List.any_nil, Bool.or_false]
  refine wpAny_bind (m := keeperOf (.ref u)) ?_
  unfold keeperOf
  refine wpAny_bind (wpAny_load ho ?_)
  simp only [boundNext, show (Value.type "method-wrapper" != Value.type "method") = true by decide, show (Value.type "method-wrapper" == Value.type "builtin_function_or_method" || Value.type "method-wrapper" == Value.type "method-wrapper") = true by decide, if_true]
  refine wpAny_pure ?_
  exact wpAny_bind (wpAny_mono h (fun r s₂ hr => wpAny_bind (wpAny_holding (wpAny_point (wpAny_pure hr)))) fun _ _ x => x)
theorem call_bn {u I : Addr} {Q : Value → Shared → Prop} (S : St B L N l σ φ s₀ s) (hu : σ u = some (IsBn I)) (hh : A.handled = none)
    (tree : ∀ {P : Fin → Shared → Prop} {E' : Value → Shared → Prop} {A' : Around}, A'.handled = none → (∀ v s', Q v s' → P (.done (.ret v)) s') → (∀ e s', E e s' → E' e s') → wpAny (model prog w) A' (Builtin.«list_iterator.__next__» ⟨[.ref I], []⟩) P E' s) :
    wpAny (model prog w) A (call (.ref u) []) Q E s := by
  obtain ⟨o, ho, rfl⟩ := S.own u _ hu
  refine wpAny_call (codeAny_of_tree ?_)
  show wpAny _ A.in1 (callAny (.ref u) ⟨[], []⟩) _ _ s
  simp only [callAny]
  refine wpAny_bind (wpAny_load ho ?_)
  simp only [boundNext, show (Value.type "method-wrapper" == Value.type "method" || Value.type "method-wrapper" == Value.type "builtin_function_or_method" || Value.type "method-wrapper" == Value.type "method-wrapper") = true by decide, if_true]
  refine KFB.if_so (by decide) ?_
  refine wpAny_bind (wpAny_of_eq (a := ()) check_li ?_)
  refine wpAny_bind (wpAny_pure (wpAny_pure ?_))
  exact ⟨quiet_li, codeAny_builtin entry_listiter_next (tree hh (fun v s' q => q) (fun e s' q => q))⟩
theorem bn_item {a I u : Addr} {vs : List Value} {i : Nat} {v : Value} {Q : Value → Shared → Prop} (S : St B L N l σ φ s₀ s) (hu : σ u = some (IsBn I)) (hI : σ I = some (IsLi a i)) (ha : σ a = some (IsL vs)) (hv : vs[i]? = some v) (hh : A.handled = none)
    (hq : ∀ s', St B L N l (upd σ I (IsLi a (i + 1))) φ s₀ s' → Q v s') : wpAny (model prog w) A (call (.ref u) []) Q E s := by
  refine call_bn S hu hh fun hh' hP hE => ?_
  obtain ⟨o, ho, hc, hd⟩ := S.own I _ hI
  obtain ⟨ol, hol, _, nl, hdl⟩ := S.list ha
  show wpAny _ _ (field (.ref I) 0 >>= _) _ _ s
  refine wpAny_bind (wpAny_field ho hd (x := .ref a) rfl ?_)
  show wpAny _ _ (if (Value.ref a == Value.none) = true then _ else _) _ _ s
  rw [if_neg (show ¬ ((Value.ref a == Value.none) = true) from Bool.false_ne_true)]
  show wpAny _ _ (field (.ref I) 1 >>= _) _ _ s
  refine wpAny_bind (wpAny_field ho hd (x := .int i 0) rfl ?_)
  show wpAny _ _ (seqItems? (.ref a) >>= _) _ _ s
  refine wpAny_bind (wpAny_seqItems hol hdl ?_)
  have hx : vs.toArray[i]? = some v := by simpa using hv
  simp only [Int.toNat_natCast, hx]
  refine wpAny_bind (wpAny_setField ho hd (by simp) (wpAny_pure (hP _ _ (hq _ ?_))))
  exact S.change hI (KeepBut.of (Heap.SameBut.update ..)) ⟨_, Heap.get?_update_self _ ho (Obj.isFreed_of_fields (Obj.data_mapFields hd _)), (Obj.cls_mapFields ..).trans hc, by rw [Obj.data_mapFields hd]; simp [rawInt]⟩ s.toks
theorem bn_end {a I u : Addr} {vs : List Value} {i : Nat} {Q : Value → Shared → Prop} (S : St B L N l σ φ s₀ s) (hu : σ u = some (IsBn I)) (hI : σ I = some (IsLi a i)) (ha : σ a = some (IsL vs)) (hv : vs[i]? = none) (hh : A.handled = none)
    (hq : ∀ e s', σ e = none → St B L N l (upd (upd σ I fun _ => True) e (IsExc "StopIteration")) φ s₀ s' → E (.ref e) s') : wpAny (model prog w) A (call (.ref u) []) Q E s := by
  refine call_bn S hu hh fun {P E' A'} hh' hP hE => ?_
  obtain ⟨o, ho, hc, hd⟩ := S.own I _ hI
  obtain ⟨ol, hol, _, nl, hdl⟩ := S.list ha
  show wpAny _ _ (field (.ref I) 0 >>= _) _ _ s
  refine wpAny_bind (wpAny_field ho hd (x := .ref a) rfl ?_)
  show wpAny _ _ (if (Value.ref a == Value.none) = true then _ else _) _ _ s
  rw [if_neg (show ¬ ((Value.ref a == Value.none) = true) from Bool.false_ne_true)]
  show wpAny _ _ (field (.ref I) 1 >>= _) _ _ s
  refine wpAny_bind (wpAny_field ho hd (x := .int i 0) rfl ?_)
  show wpAny _ _ (seqItems? (.ref a) >>= _) _ _ s
  refine wpAny_bind (wpAny_seqItems hol hdl ?_)
  have hx : vs.toArray[i]? = none := by simpa using hv
  simp only [Int.toNat_natCast, hx]
  refine wpAny_bind (wpAny_rule (wpAny_bind (wpAny_setField ho hd (by simp) ?_)))
  have S1 := S.change (P := fun _ => True) hI (KeepBut.of (Heap.SameBut.update ..)) ⟨_, Heap.get?_update_self (Obj.mapFields (·.setIfInBounds 0 Value.none)) ho (Obj.isFreed_of_fields (Obj.data_mapFields hd _)), trivial⟩ s.toks
  show wpAny _ _ (newExc (.type "StopIteration") [] >>= _) _ _ _
  refine wpAny_bind ?_
  simp only [newExc, newTuple]
  refine wpAny_bind (wpAny_newObj_type ?_ (by size_fits))
  refine wpAny_bind (m := firstArgMember _ _) (wpAny_of_eq (a := Value.none) (by first | rfl | (simp only [firstArgMember]; rfl)) ?_)
  refine wpAny_newObj_type ?_ (by size_fits)
  simp only [raiseNew]
  refine wpAny_bind (wpAny_handled ?_)
  rw [hh']
  refine wpAny_bind (wpAny_pure (wpAny_throw (hE _ _ ?_)))
  have S2 := S1.grow (h' := (s.heap.update I (Obj.mapFields (·.setIfInBounds 0 Value.none))).push { cls := .type "tuple", data := .seq #[] }) (fun b o q => Heap.get?_push_of_some _ q) s.toks
  have S3 := S2.alloc (o := { cls := .type "StopIteration", data := .fields (#[Value.ref (s.heap.update I (Obj.mapFields fun x => x.setIfInBounds 0 Value.none)).objs.size, .none, .none, .none, .bool false, .none] ++ ownMembersOf (.type "StopIteration") []) }) (P := IsExc "StopIteration") (by rfl) ⟨rfl, _, rfl, by rfl⟩ s.toks
  refine hq _ _ ?_ S3
  have := S2.fresh
  unfold upd at this
  split at this
  · cases this
  · exact this
end
end
section
open PySem PySem.W PyProof.Rows
/-- where the search's parts lie -/
structure FA where
  sa : Addr
  ia : Addr
  ea : Addr
  da : Addr
structure Fc (w : World) (a : SA) (nodes : List Nat) (su : Nat → List Nat) (σd σ' : Own) (c : FA) (fs : List (Nat × Addr × Addr)) (fresh : Bool) (sn : List Nat) : Prop where
  ext : Ext σd σ'
  tg : ∃ tag : Addr → Nat × Nat, tag c.sa = (0, 0) ∧ tag c.ia = (1, 0) ∧ tag c.ea = (2, 0) ∧ tag c.da = (3, 0) ∧ ∀ f ∈ fs, tag f.2.1 = (4, f.1) ∧ tag f.2.2 = (5, f.1)
  off : σd c.sa = none ∧ σd c.ia = none ∧ σd c.ea = none ∧ σd c.da = none
  offs : ∀ f ∈ fs, σd f.2.1 = none ∧ σd f.2.2 = none
  st : ∃ vs, σ' c.sa = some (IsL vs) ∧ Ints vs (zi (fs.map (·.1)))
  it : σ' c.ia = some (IsL (fs.map fun f => .ref f.2.1))
  se : σ' c.ea = some (IsSe w (fun k => decide (k ∈ zi sn)) sn.length)
  di : ∃ kvs, σ' c.da = some (IsD w kvs) ∧ kvs.map (·.1) = zi (fs.map (·.1))
  bn : ∀ f ∈ fs, σ' f.2.1 = some (IsBn f.2.2)
  li : ∀ (j : Nat) f, fs[j]? = some f → σ' f.2.2 = some (IsLi (a.sus f.1) (if fresh = true ∧ j + 1 = fs.length then 0 else (su f.1).length))
  inc : (fs.map (·.1)).Pairwise (· < ·)
  nod : ∀ f ∈ fs, f.1 ∈ nodes
  snn : sn.Nodup ∧ ∀ x ∈ sn, x ∈ nodes
section
variable {w : World} {a : SA} {nodes : List Nat} {su : Nat → List Nat} {σd σ' : Own} {c : FA} {fs : List (Nat × Addr × Addr)} {fresh : Bool} {sn : List Nat}
theorem Fc.ne (F : Fc w a nodes su σd σ' c fs fresh sn) : c.sa ≠ c.ia ∧ c.sa ≠ c.ea ∧ c.sa ≠ c.da ∧ c.ia ≠ c.ea ∧ c.ia ≠ c.da ∧ c.ea ≠ c.da := by
  obtain ⟨tag, t1, t2, t3, t4, _⟩ := F.tg
  exact ⟨tag_ne t1 t2 (by simp), tag_ne t1 t3 (by simp), tag_ne t1 t4 (by simp), tag_ne t2 t3 (by simp), tag_ne t2 t4 (by simp), tag_ne t3 t4 (by simp)⟩
theorem Fc.fne (F : Fc w a nodes su σd σ' c fs fresh sn) : ∀ f ∈ fs, (f.2.1 ≠ c.sa ∧ f.2.1 ≠ c.ia ∧ f.2.1 ≠ c.ea ∧ f.2.1 ≠ c.da) ∧ (f.2.2 ≠ c.sa ∧ f.2.2 ≠ c.ia ∧ f.2.2 ≠ c.ea ∧ f.2.2 ≠ c.da) := by
  obtain ⟨tag, t1, t2, t3, t4, t5⟩ := F.tg
  intro f hf
  obtain ⟨u1, u2⟩ := t5 f hf
  exact ⟨⟨tag_ne u1 t1 (by simp), tag_ne u1 t2 (by simp), tag_ne u1 t3 (by simp), tag_ne u1 t4 (by simp)⟩, ⟨tag_ne u2 t1 (by simp), tag_ne u2 t2 (by simp), tag_ne u2 t3 (by simp), tag_ne u2 t4 (by simp)⟩⟩
/-- the top one, if it has none above it, is through -/
theorem Fc.old {f : Nat × Addr × Addr} (F : Fc w a nodes su σd σ' c (fs ++ [f]) true sn) (h : su f.1 = []) : Fc w a nodes su σd σ' c (fs ++ [f]) false sn := by
  refine { F with li := fun j g hg => ?_ }
  have := F.li j g hg
  simp only [Bool.false_eq_true, false_and, if_false]
  split at this
  · rename_i e
    have e2 : j = fs.length := by have := e.2; simp at this; omega
    subst e2
    simp at hg
    subst hg
    rw [h]; exact this
  · exact this
theorem Fc.take {f : Nat × Addr × Addr} (F : Fc w a nodes su σd σ' c (fs ++ [f]) true sn) (h : (su f.1).length = 1) : Fc w a nodes su σd (upd σ' f.2.2 (IsLi (a.sus f.1) 1)) c (fs ++ [f]) false sn := by
  obtain ⟨tag, t1, t2, t3, t4, t5⟩ := F.tg
  have hf := (F.fne f (by simp)).2
  have hb : ∀ g ∈ fs ++ [f], g.2.1 ≠ f.2.2 := fun g hg => tag_ne (t5 g hg).1 (t5 f (by simp)).2 (by simp)
  refine { F with ext := F.ext.upd (F.offs f (by simp)).2, st := ?_, it := ?_, se := ?_, di := ?_, bn := fun g hg => ?_, li := fun j g hg => ?_ }
  · rw [upd_ne (Ne.symm hf.1)]; exact F.st
  · rw [upd_ne (Ne.symm hf.2.1)]; exact F.it
  · rw [upd_ne (Ne.symm hf.2.2.1)]; exact F.se
  · rw [upd_ne (Ne.symm hf.2.2.2)]; exact F.di
  · rw [upd_ne (hb g hg)]; exact F.bn g hg
  · simp only [Bool.false_eq_true, false_and, if_false]
    by_cases e : j = fs.length
    · subst e
      simp at hg
      subst hg
      rw [upd_self, h]
    · have hj : j < fs.length := by
        have := (List.getElem?_eq_some_iff.mp hg).1
        simp at this; omega
      have hgm : g ∈ fs := by rw [List.getElem?_append_left hj] at hg; exact List.mem_of_getElem? hg
      have hlt : g.1 < f.1 := by
        have := F.inc
        rw [List.map_append, List.pairwise_append] at this
        exact this.2.2 g.1 (List.mem_map.mpr ⟨g, hgm, rfl⟩) f.1 (by simp)
      rw [upd_ne (tag_ne (t5 g (by simp [hgm])).2 (t5 f (by simp)).2 (by simp; omega))]
      have := F.li j g hg
      rw [if_neg (by simp; omega)] at this
      exact this
theorem Fc.pop {f : Nat × Addr × Addr} {vs : List Value} {kvs : List (Int × Value)} {P : Obj → Prop} (F : Fc w a nodes su σd σ' c (fs ++ [f]) false sn) (hv : Ints vs (zi (fs.map (·.1)))) (hk : kvs.map (·.1) = zi (fs.map (·.1))) :
    Fc w a nodes su σd (upd (upd (upd (upd σ' f.2.2 P) c.sa (IsL vs)) c.da (IsD w kvs)) c.ia (IsL (fs.map fun f => .ref f.2.1))) c fs false sn := by
  obtain ⟨tag, t1, t2, t3, t4, t5⟩ := F.tg
  obtain ⟨n1, n2, n3, n4, n5, n6⟩ := F.ne
  have hf := (F.fne f (by simp)).2
  have up : ∀ g ∈ fs, ∀ Q, (σ' g.2.1 = some Q → upd (upd (upd (upd σ' f.2.2 P) c.sa (IsL vs)) c.da (IsD w kvs)) c.ia (IsL (fs.map fun f => .ref f.2.1)) g.2.1 = some Q) ∧ (σ' g.2.2 = some Q → upd (upd (upd (upd σ' f.2.2 P) c.sa (IsL vs)) c.da (IsD w kvs)) c.ia (IsL (fs.map fun f => .ref f.2.1)) g.2.2 = some Q) := fun g hg Q => by
    obtain ⟨⟨g1, g2, g3, g4⟩, ⟨g5, g6, g7, g8⟩⟩ := F.fne g (by simp [hg])
    have hlt : g.1 < f.1 := by
      have := F.inc
      rw [List.map_append, List.pairwise_append] at this
      exact this.2.2 g.1 (List.mem_map.mpr ⟨g, hg, rfl⟩) f.1 (by simp)
    have h1 : g.2.1 ≠ f.2.2 := tag_ne (t5 g (by simp [hg])).1 (t5 f (by simp)).2 (by simp)
    have h2 : g.2.2 ≠ f.2.2 := tag_ne (t5 g (by simp [hg])).2 (t5 f (by simp)).2 (by simp; omega)
    exact ⟨fun e => by rw [upd_ne g2, upd_ne g4, upd_ne g1, upd_ne h1]; exact e, fun e => by rw [upd_ne g6, upd_ne g8, upd_ne g5, upd_ne h2]; exact e⟩
  refine { ext := (((F.ext.upd (F.offs f (by simp)).2).upd F.off.1).upd F.off.2.2.2).upd F.off.2.1, tg := ⟨tag, t1, t2, t3, t4, fun g hg => t5 g (by simp [hg])⟩, off := F.off, offs := fun g hg => F.offs g (by simp [hg]), st := ⟨vs, ?_, hv⟩, it := upd_self, se := ?_, di := ⟨kvs, ?_, hk⟩, bn := fun g hg => (up g hg _).1 (F.bn g (by simp [hg])), li := fun j g hg => ?_, inc := ?_, nod := fun g hg => F.nod g (by simp [hg]), snn := F.snn }
  · rw [upd_ne n1, upd_ne n3, upd_self]
  · rw [upd_ne (Ne.symm n4), upd_ne n6, upd_ne (Ne.symm n2), upd_ne (Ne.symm hf.2.2.1)]; exact F.se
  · rw [upd_ne (Ne.symm n5), upd_self]
  · have hj := (List.getElem?_eq_some_iff.mp hg).1
    have := F.li j g (by rw [List.getElem?_append_left hj]; exact hg)
    simp only [Bool.false_eq_true, false_and, if_false] at this ⊢
    exact (up g (List.mem_of_getElem? hg) _).2 this
  · have := F.inc
    rw [List.map_append, List.pairwise_append] at this
    exact this.1
theorem Fc.push {x : Nat} {I u : Addr} {vs : List Value} {kvs : List (Int × Value)} (F : Fc w a nodes su σd σ' c fs false sn) (hx : x ∈ nodes) (hxs : x ∉ sn) (hlt : ∀ f ∈ fs, f.1 < x) (hI : σ' I = none) (hu : σ' u = none) (hne : u ≠ I)
    (hv : Ints vs (zi (fs.map (·.1) ++ [x]))) (hk : kvs.map (·.1) = zi (fs.map (·.1) ++ [x])) :
    Fc w a nodes su σd (upd (upd (upd (upd (upd (upd σ' c.ea (IsSe w (fun k => decide (k ∈ zi (sn ++ [x]))) (sn ++ [x]).length)) I (IsLi (a.sus x) 0)) u (IsBn I)) c.ia (IsL ((fs ++ [(x, u, I)]).map fun f => .ref f.2.1))) c.da (IsD w kvs)) c.sa (IsL vs)) c (fs ++ [(x, u, I)]) true (sn ++ [x]) := by
  obtain ⟨tag, t1, t2, t3, t4, t5⟩ := F.tg
  obtain ⟨n1, n2, n3, n4, n5, n6⟩ := F.ne
  obtain ⟨vs0, st0, _⟩ := F.st
  obtain ⟨kvs0, di0, _⟩ := F.di
  have nw : ∀ b P, σ' b = some P → b ≠ I ∧ b ≠ u := fun b P e => ⟨((by first | exact ne_sn e hI | exact ne_ns e hI | exact ne_sn hI e | exact ne_ns hI e)), ((by first | exact ne_sn e hu | exact ne_ns e hu | exact ne_sn hu e | exact ne_ns hu e))⟩
  have a1 := nw _ _ st0
  have a2 := nw _ _ F.it
  have a3 := nw _ _ F.se
  have a4 := nw _ _ di0
  have fnw : ∀ g ∈ fs, (g.2.1 ≠ I ∧ g.2.1 ≠ u) ∧ (g.2.2 ≠ I ∧ g.2.2 ≠ u) := fun g hg => by
    obtain ⟨j, hj⟩ := List.getElem?_of_mem hg
    exact ⟨nw _ _ (F.bn g hg), nw _ _ (F.li j g hj)⟩
  have up : ∀ b, b ≠ c.sa → b ≠ c.ia → b ≠ c.ea → b ≠ c.da → b ≠ I → b ≠ u → upd (upd (upd (upd (upd (upd σ' c.ea (IsSe w (fun k => decide (k ∈ zi (sn ++ [x]))) (sn ++ [x]).length)) I (IsLi (a.sus x) 0)) u (IsBn I)) c.ia (IsL ((fs ++ [(x, u, I)]).map fun f => .ref f.2.1))) c.da (IsD w kvs)) c.sa (IsL vs) b = σ' b := fun b h1 h2 h3 h4 h5 h6 => by
    rw [upd_ne h1, upd_ne h4, upd_ne h2, upd_ne h6, upd_ne h5, upd_ne h3]
  refine { ext := (((((F.ext.upd F.off.2.2.1).upd (F.ext.none hI)).upd (F.ext.none hu)).upd F.off.2.1).upd F.off.2.2.2).upd F.off.1, tg := ⟨fun b => if b = I then (5, x) else if b = u then (4, x) else tag b, ?_, ?_, ?_, ?_, fun g hg => ?_⟩, off := F.off, offs := fun g hg => ?_, st := ⟨vs, upd_self, by simpa using hv⟩, it := ?_, se := ?_, di := ⟨kvs, ?_, by simpa using hk⟩, bn := fun g hg => ?_, li := fun j g hg => ?_, inc := ?_, nod := fun g hg => ?_, snn := ?_ }
  · simp [a1]; exact t1
  · simp [a2]; exact t2
  · simp [a3]; exact t3
  · simp [a4]; exact t4
  · rcases List.mem_append.mp hg with h | h
    · have := fnw g h; simp [this]; exact t5 g h
    · simp at h; subst h; simp [hne]
  · rcases List.mem_append.mp hg with h | h
    · exact F.offs g h
    · simp at h; subst h; exact ⟨F.ext.none hu, F.ext.none hI⟩
  · rw [upd_ne (Ne.symm n1), upd_ne n5, upd_self]
  · rw [upd_ne (Ne.symm n2), upd_ne n6, upd_ne (Ne.symm n4), upd_ne a3.2, upd_ne a3.1, upd_self]
  · rw [upd_ne (Ne.symm n3), upd_self]
  · rcases List.mem_append.mp hg with h | h
    · obtain ⟨⟨g1, g2, g3, g4⟩, _⟩ := F.fne g h
      rw [up _ g1 g2 g3 g4 (fnw g h).1.1 (fnw g h).1.2]; exact F.bn g h
    · simp at h; subst h
      show upd _ c.sa _ u = _
      rw [upd_ne (Ne.symm a1.2), upd_ne (Ne.symm a4.2), upd_ne (Ne.symm a2.2), upd_self]
  · by_cases e : j = fs.length
    · subst e
      simp at hg
      subst hg
      rw [if_pos (by simp)]
      show upd _ c.sa _ I = _
      rw [upd_ne (Ne.symm a1.1), upd_ne (Ne.symm a4.1), upd_ne (Ne.symm a2.1), upd_ne (Ne.symm hne), upd_self]
    · have hj : j < fs.length := by
        have := (List.getElem?_eq_some_iff.mp hg).1
        simp at this; omega
      rw [List.getElem?_append_left hj] at hg
      have h := List.mem_of_getElem? hg
      obtain ⟨_, ⟨g1, g2, g3, g4⟩⟩ := F.fne g h
      rw [if_neg (by simp; omega), up _ g1 g2 g3 g4 (fnw g h).2.1 (fnw g h).2.2]
      have := F.li j g hg
      simpa using this
  · rw [List.map_append, List.pairwise_append]
    exact ⟨F.inc, by simp, fun p hp q hq => by
      obtain ⟨f, hf, rfl⟩ := List.mem_map.mp hp
      simp at hq; subst hq; exact hlt f hf⟩
  · rcases List.mem_append.mp hg with h | h
    · exact F.nod g h
    · simp at h; subst h; exact hx
  · exact ⟨List.nodup_append.mpr ⟨F.snn.1, by simp, fun p hp q hq => by simp at hq; subst hq; exact fun e => hxs (e ▸ hp)⟩, fun p hp => by
      rcases List.mem_append.mp hp with h | h
      · exact F.snn.2 p h
      · simp at h; subst h; exact hx⟩
end
end
section
open PySem PySem.W PyProof.Rows
section
variable {w : World} {B : Heap} {A : Around} {L : Addr} {N : List (Str × Option Addr)} {l : List (Option Value)} {σ : Own} {φ : Frz} {s₀ s : Shared} {E : Value → Shared → Prop} {env : Env}
variable {σ₀ : Own} {a : SA} {nodes : List Nat} {np : Nat → Int} {su : Nat → List Nat} {rd : Option (List Nat)} {npo nfi : Int}
theorem item_de {d : Addr} {kvs : List (Int × Value)} {k : Int} {t : Tok} {ep : Nat} {value slice : Expr} {v : Value} {Q : Value → Shared → Prop} (S : St B L N l σ φ s₀ s) (h : σ d = some (IsDE w kvs ep)) (hv : valueAt kvs k = some v) (hq : ∀ s', St B L N l σ φ s₀ s' → Q v s')
    (hs : subscripted slice false (.ref d) (.int k t) = operate [.ref d, .int k t] (getItem (.ref d) (.int k t)) := by with_unfolding_all rfl) :
    wpAny (model PR w) A (subscriptTail value slice (.ref d) (.int k t)) Q E s := by
  obtain ⟨o, ho, es, r⟩ := S.own d _ h
  have hD : s.heap.DictOf (intKind PR w) d kvs := Heap.dictOf_iff.mpr ⟨o, ho, es, ep, r⟩
  exact tail_any hD.typeIs slot_dict_getitem.lookup (wpAny_getItem_of (knd := intKind PR w) (intKind_is _ _ k t) hD.mapOf hv (hq _ (S.toks _))) hs
theorem item_last {prog : Program} {a : Addr} {vs : List Value} {v : Value} {t : Tok} {value slice : Expr} {Q : Value → Shared → Prop} (S : St B L N l σ φ s₀ s) (h : σ a = some (IsL (vs ++ [v]))) (hq : Q v s)
    (hs : subscripted slice false (.ref a) (.int (-1) t) = operate [.ref a, .int (-1) t] (getItem (.ref a) (.int (-1) t)) := by with_unfolding_all rfl) :
    wpAny (model prog w) A (subscriptTail value slice (.ref a) (.int (-1) t)) Q E s := by
  refine kde_neg (j := vs.length) (S.list h) (by decide) (by decide) ?_ (by simp) hq hs
  unfold seqIndex?
  simp
  omega
inductive FcA (w : World) (a : SA) (nodes : List Nat) (su : Nat → List Nat) (σd : Own) (sa ia ea da : Addr) (i : Nat) (l' : List (Option Value)) (σ' : Own) : Prop
  | mk (sn : List Nat) (l7 : Option Value) (h1 : l' = [some (.ref a.x), some (.ref a.nd), some (.ref sa), some (.ref ia), some (.ref ea), some (.ref da), l7]) (h2 : Fc w a nodes su σd σ' ⟨sa, ia, ea, da⟩ [] false sn) : FcA w a nodes su σd sa ia ea da i l' σ'
inductive FcB (w : World) (a : SA) (nodes : List Nat) (su : Nat → List Nat) (σd : Own) (sa ia ea da : Addr) (m : Nat) (l' : List (Option Value)) (σ' : Own) : Prop
  | mk (x : Nat) (tx : Tok) (sn : List Nat) (fs : List (Nat × Addr × Addr)) (h1 : l' = [some (.ref a.x), some (.ref a.nd), some (.ref sa), some (.ref ia), some (.ref ea), some (.ref da), some (.int (x : Nat) tx)]) (h2 : m = 1000 - x) (h3 : x ∈ nodes) (h4 : Fc w a nodes su σd σ' ⟨sa, ia, ea, da⟩ fs false sn) (h5 : ∀ f ∈ fs, f.1 < x) : FcB w a nodes su σd sa ia ea da m l' σ'
inductive FcC (w : World) (a : SA) (nodes : List Nat) (su : Nat → List Nat) (σd : Own) (sa ia ea da : Addr) (x : Nat) (tx : Tok) (l' : List (Option Value)) (σ' : Own) : Prop
  | mk (sn : List Nat) (fs : List (Nat × Addr × Addr)) (fresh : Bool) (h1 : l' = [some (.ref a.x), some (.ref a.nd), some (.ref sa), some (.ref ia), some (.ref ea), some (.ref da), some (.int (x : Nat) tx)]) (h2 : Fc w a nodes su σd σ' ⟨sa, ia, ea, da⟩ fs fresh sn) (h3 : (∀ f ∈ fs, f.1 ≤ x)) (h4 : (fresh = true → ∃ fs0 u I, fs = fs0 ++ [(x, u, I)])) : FcC w a nodes su σd sa ia ea da x tx l' σ'
inductive FcD (w : World) (a : SA) (nodes : List Nat) (su : Nat → List Nat) (σd : Own) (sa ia ea da : Addr) (x : Nat) (tx : Tok) (m : Nat) (l' : List (Option Value)) (σ' : Own) : Prop
  | mk (sn : List Nat) (fs : List (Nat × Addr × Addr)) (fresh : Bool) (h1 : m = fs.length) (h2 : l' = [some (.ref a.x), some (.ref a.nd), some (.ref sa), some (.ref ia), some (.ref ea), some (.ref da), some (.int (x : Nat) tx)]) (h3 : Fc w a nodes su σd σ' ⟨sa, ia, ea, da⟩ fs fresh sn) (h4 : (∀ f ∈ fs, f.1 ≤ x)) (h5 : (fresh = true → ∃ fs0 u I, fs = fs0 ++ [(x, u, I)])) : FcD w a nodes su σd sa ia ea da x tx m l' σ'
theorem fc_spec (hB : Base w B) (R : Rm A 6) (F : FmAny A φ B L) (S : St B L N l σ φ s₀ s) (I : Srt w σ₀ σ a nodes np su rd npo nfi) (hn : ∀ p ∈ nodes, p < 1000) (hs1 : ∀ p ∈ nodes, (su p).length ≤ 1) (hs2 : ∀ p ∈ nodes, ∀ q ∈ su p, q ∈ nodes ∧ p < q) {Q : Value → Shared → Prop}
  (k : ∀ σ' s', Ext σ σ' → St B L N l σ' φ s₀ s' → Q .none s') :
  wpAny (model PR w) A (call (.ref 162) [.ref a.x]) Q E s := by
  refine call_stF [(nm "self", false), (nm "n2i", false), (nm "stack", false), (nm "itstack", false), (nm "seen", false), (nm "node2stacki", false), (nm "node", false)] [some (.ref a.x), none, none, none, none, none, none] [(nm "set", .type "set"), (nm "iter", .builtin "iter"), (nm "StopIteration", .type "StopIteration"), (nm "len", .builtin "len")]
    (fun v σ' => ∀ s, St B L N l σ' φ s₀ s → Q v s)
    S (by have := R.depth; omega) hB.lim (hB.globs rfl) (hB.X _ _ rfl) rfl (codeRec_of hB.X rfl) rfl rfl rfl rfl rfl (cells_loc rfl) (no_cells rfl) (by decide) rfl (by walk_at "init") ?_ ?_
  · intro env A' L' κ φ' s' _ e eG dA hF S'
    have R' := R.deeper dA
    have F' := hF F
    dsimp only [List.map] at S' e ⊢
    dsimp only [cond] at S' e ⊢
    obtain ⟨t3, t4, hdx⟩ := I.hdx
    refine fld_in fun KK hKK => ?_
    refine wpAny_execs_cons ?_
    walk_at "m"
    refine get_n2i hB S' I.hx hdx rfl fun s S => ?_
    walk_at "m"
    refine newList_l S (by rw [sizeLine_eq]; decide) fun sa s hsa S => ?_
    walk_at "m"
    refine newList_l S (by rw [sizeLine_eq]; decide) fun ia s hia S => ?_
    walk_at "m"
    refine newSet_e S fun ea s hea S => ?_
    walk_at "m"
    refine newDict_d S fun da s hda S => ?_
    walk_at "m"
    have hnd : ∀ {b : Addr}, (∃ P, σ b = some P) → b ≠ sa ∧ b ≠ ia ∧ b ≠ ea ∧ b ≠ da := fun {b} ⟨P, hb⟩ => by
      have h1 : b ≠ sa := (by first | exact ne_sn hb hsa | exact ne_ns hb hsa | exact ne_sn hsa hb | exact ne_ns hsa hb)
      have h2 : b ≠ ia := fun c => by rw [c] at hb; rw [upd_none hsa hb] at hia; cases hia
      have h3 : b ≠ ea := fun c => by rw [c] at hb; rw [upd_none hia (upd_none hsa hb)] at hea; cases hea
      have h4 : b ≠ da := fun c => by rw [c] at hb; rw [upd_none hea (upd_none hia (upd_none hsa hb))] at hda; cases hda
      exact ⟨h1, h2, h3, h4⟩
    have q1 : ia ≠ sa := (by first | exact ne_sn hia upd_self | exact ne_ns hia upd_self | exact ne_sn upd_self hia | exact ne_ns upd_self hia)
    have q2 : ea ≠ ia := (by first | exact ne_sn hea upd_self | exact ne_ns hea upd_self | exact ne_sn upd_self hea | exact ne_ns upd_self hea)
    have q3 : ea ≠ sa := (by first | exact ne_sn hea (((upd_ne (Ne.symm q1))).trans upd_self) | exact ne_ns hea (((upd_ne (Ne.symm q1))).trans upd_self) | exact ne_sn (((upd_ne (Ne.symm q1))).trans upd_self) hea | exact ne_ns (((upd_ne (Ne.symm q1))).trans upd_self) hea)
    have q4 : da ≠ ea := (by first | exact ne_sn hda upd_self | exact ne_ns hda upd_self | exact ne_sn upd_self hda | exact ne_ns upd_self hda)
    have q5 : da ≠ ia := (by first | exact ne_sn hda (((upd_ne (Ne.symm q2))).trans upd_self) | exact ne_ns hda (((upd_ne (Ne.symm q2))).trans upd_self) | exact ne_sn (((upd_ne (Ne.symm q2))).trans upd_self) hda | exact ne_ns (((upd_ne (Ne.symm q2))).trans upd_self) hda)
    have q6 : da ≠ sa := (by first | exact ne_sn hda ((((upd_ne (Ne.symm q3))).trans (upd_ne (Ne.symm q1))).trans upd_self) | exact ne_ns hda ((((upd_ne (Ne.symm q3))).trans (upd_ne (Ne.symm q1))).trans upd_self) | exact ne_sn ((((upd_ne (Ne.symm q3))).trans (upd_ne (Ne.symm q1))).trans upd_self) hda | exact ne_ns ((((upd_ne (Ne.symm q3))).trans (upd_ne (Ne.symm q1))).trans upd_self) hda)
    have oi : σ ia = none := by rwa [upd_ne q1] at hia
    have oe : σ ea = none := by rwa [upd_ne q2, upd_ne q3] at hea
    have od : σ da = none := by rwa [upd_ne q4, upd_ne q5, upd_ne q6] at hda
    obtain ⟨m1, m2, m3, m4⟩ := hnd ⟨_, I.hnd⟩
    obtain ⟨ep, S⟩ := S.openD (d := a.nd) (kvs := nodes.map fun p : Nat => ((p : Int), Value.ref (a.inf p))) (by rw [upd_ne m4, upd_ne m3, upd_ne m2, upd_ne m1]; exact I.hnd)
    have ex0 : Ext (upd σ a.nd (IsDE w (nodes.map fun p : Nat => ((p : Int), Value.ref (a.inf p))) ep)) (upd (upd (upd (upd (upd σ sa (IsL [])) ia (IsL [])) ea (IsSe w (fun _ => false) 0)) da (IsD w [])) a.nd (IsDE w (nodes.map fun p : Nat => ((p : Int), Value.ref (a.inf p))) ep)) := fun b P hb => by
      by_cases c : b = a.nd
      · subst c; rw [upd_self] at hb ⊢; exact hb
      · rw [upd_ne c] at hb ⊢
        obtain ⟨h1, h2, h3, h4⟩ := hnd ⟨P, hb⟩
        rw [upd_ne h4, upd_ne h3, upd_ne h2, upd_ne h1]; exact hb
    obtain ⟨kvs0, hkv, S1, ex1⟩ : ∃ kvs0, (nodes.map fun p : Nat => ((p : Int), Value.ref (a.inf p))) = kvs0 ∧ St B L' _ _ (upd (upd (upd (upd (upd σ sa (IsL [])) ia (IsL [])) ea (IsSe w (fun _ => false) 0)) da (IsD w [])) a.nd (IsDE w kvs0 ep)) _ s₀ _ ∧
      Ext (upd σ a.nd (IsDE w kvs0 ep)) (upd (upd (upd (upd (upd σ sa (IsL [])) ia (IsL [])) ea (IsSe w (fun _ => false) 0)) da (IsD w [])) a.nd (IsDE w kvs0 ep)) := ⟨_, rfl, S, ex0⟩
    clear S ex0
    have S := S1
    obtain ⟨σd, hsd, ex0⟩ : ∃ σd, upd σ a.nd (IsDE w kvs0 ep) = σd ∧ Ext σd _ := ⟨_, rfl, ex1⟩
    have offd : ∀ b, b ≠ a.nd → σ b = none → σd b = none := fun b h1 h2 => by rw [← hsd, upd_ne h1]; exact h2
    have F0 : Fc w a nodes su σd (upd (upd (upd (upd (upd σ sa (IsL [])) ia (IsL [])) ea (IsSe w (fun _ => false) 0)) da (IsD w [])) a.nd (IsDE w kvs0 ep)) ⟨sa, ia, ea, da⟩ [] false [] := by
      refine { ext := ex0, tg := ⟨fun b => if b = sa then (0, 0) else if b = ia then (1, 0) else if b = ea then (2, 0) else (3, 0), by simp, by simp [q1], by simp [q2, q3], by simp [q4, q5, q6], fun f hf => by cases hf⟩, off := ⟨offd _ (Ne.symm m1) hsa, offd _ (Ne.symm m2) oi, offd _ (Ne.symm m3) oe, offd _ (Ne.symm m4) od⟩, offs := fun f hf => (by cases hf), st := ⟨[], ?_, Ints.nil⟩, it := ?_, se := ?_, di := ⟨[], ?_, rfl⟩, bn := fun f hf => (by cases hf), li := fun j f hf => (by simp at hf), inc := (by simp), nod := fun f hf => (by cases hf), snn := ⟨.nil, fun x hx => (by cases hx)⟩ }
      · rw [upd_ne (Ne.symm m1), upd_ne (Ne.symm q6), upd_ne (Ne.symm q3), upd_ne (Ne.symm q1), upd_self]
      · rw [upd_ne (Ne.symm m2), upd_ne (Ne.symm q5), upd_ne (Ne.symm q2), upd_self]; rfl
      · rw [upd_ne (Ne.symm m3), upd_ne (Ne.symm q4), upd_self]
        congr 2
      · rw [upd_ne (Ne.symm m4), upd_self]
    have dnd : σd a.nd = some (IsDE w kvs0 ep) := by rw [← hsd, upd_self]
    have dinf : ∀ p ∈ nodes, σd (a.inf p) = some (IsNi p (np p) (a.sus p) (a.idx p)) ∧ σd (a.idx p) = some IsED ∧ ∃ vs, σd (a.sus p) = some (IsL vs) ∧ Ints vs (zi (su p)) := fun p hp => by
      obtain ⟨i1, i2, vs, i3, i4⟩ := I.info p hp
      obtain ⟨u1, u2, u3⟩ := I.tin p hp
      rw [← hsd, upd_ne (tag_ne u1 I.tnd (by simp)), upd_ne (tag_ne u2 I.tnd (by simp)), upd_ne (tag_ne u3 I.tnd (by simp))]
      exact ⟨i1, i2, vs, i3, i4⟩
    have fin : ∀ σ', Ext σd σ' → Ext σ (upd σ' a.nd (IsD w kvs0)) := fun σ' h b P hb => by
      by_cases c : b = a.nd
      · subst c; rw [upd_self, ← hkv, ← I.hnd]; exact hb
      · rw [upd_ne c]; exact h b P (by rw [← hsd, upd_ne c]; exact hb)
    refine for_jF kvs0.length (fun i v => ∃ k x t, kvs0[i]? = some (k, x) ∧ v = .int k t) (needD w a.nd kvs0 ep) (FcA w a nodes su σd sa ia ea da) S ?_ ?_ ?_ ?_ (by with_unfolding_all (intro _; rfl))
    · walk_at "m"
      exact iter_keys hB R'.handled S (ex0 _ _ dnd) fun it s r => ⟨_, _, r, [], _, rfl, F0⟩
    · rintro i l' σ' ⟨sn, l7, rfl, F⟩; exact F.ext _ _ dnd
    · rintro i v l' σ' φ'' s hφ hi ⟨z, x, t, hz, rfl⟩ ⟨sn, l7, rfl, F⟩ S
      have F'' := F'.mono hφ
      obtain ⟨p, hp, rfl⟩ : ∃ p ∈ nodes, (p : Int) = z := by
        rw [← hkv] at hz
        have := List.mem_of_getElem? hz
        obtain ⟨q, hq, e⟩ := List.mem_map.mp this
        exact ⟨q, hq, (congrArg Prod.fst e)⟩
      walk_at "m"
      have hsl : ∀ {σ' fs fresh sn}, Fc w a nodes su σd σ' ⟨sa, ia, ea, da⟩ fs fresh sn → sn.length < 2000 := fun {σ' fs fresh sn} F => by
        have := nodup_lt F.snn.1 (fun x hx => hn x (F.snn.2 x hx)); omega
      have hfl : ∀ {σ' fs fresh sn}, Fc w a nodes su σd σ' ⟨sa, ia, ea, da⟩ fs fresh sn → fs.length < 2000 := fun {σ' fs fresh sn} F => by
        have h1 : (fs.map (·.1)).Nodup := F.inc.imp (fun h => Nat.ne_of_lt h)
        have := nodup_lt h1 (fun x hx => by obtain ⟨f, hf, rfl⟩ := List.mem_map.mp hx; exact hn _ (F.nod f hf))
        simp at this; omega
      refine wpAny_If ?_
      walk_at "m"
      refine in_e S F.se (by have := hsl F; omega) fun s S => ?_
      walk_at "m"
      by_cases hps : p ∈ sn
      · refine ite_t (decide_eq_true (mem_zi.mpr hps)) ?_
        walk_at "m"
        exact ⟨_, _, ⟨sn, _, rfl, F⟩, S⟩
      refine ite_f (by rw [decide_eq_true_eq]; exact fun h => hps (mem_zi.mp h)) ?_
      walk_at "m"
      refine while_j (FcB w a nodes su σd sa ia ea da) (1000 - p) S ⟨p, _, sn, [], rfl, rfl, hp, F, fun f hf => (by cases hf)⟩ ?_
      clear S F
      rintro m l' σ' s ⟨x, tx, sn, fs, rfl, rfl, hx, F, hlt⟩ S
      walk_at "m"
      refine if_j (FcC w a nodes su σd sa ia ea da x tx) S ?_ ?_
      · walk_at "m"
        refine in_e S F.se (by have := hsl F; omega) fun s S => ?_
        walk_at "m"
        obtain ⟨kvs, di1, di2⟩ := F.di
        have hkn : valueAt kvs (x : Int) = none := by
          unfold valueAt
          rw [Option.map_eq_none_iff, List.find?_eq_none]
          intro q hq
          have hm : q.1 ∈ zi (fs.map (·.1)) := by rw [← di2]; exact List.mem_map.mpr ⟨q, hq, rfl⟩
          obtain ⟨y, hy, e⟩ := List.mem_map.mp hm
          obtain ⟨f, hf, rfl⟩ := List.mem_map.mp hy
          have := hlt f hf
          simp
          intro c
          rw [c] at e
          omega
        by_cases hxs : x ∈ sn
        · refine ite_t (decide_eq_true (mem_zi.mpr hxs)) ?_
          refine wpAny_execs_cons (wpAny_If ?_)
          walk_at "m"
          refine in_d hB S di1 fun s S => ?_
          rw [hkn]
          walk_at "m"
          refine ite_f (by simp) ?_
          walk_at "m"
          exact ⟨rfl, _, _, ⟨sn, fs, false, rfl, F, fun f hf => Nat.le_of_lt (hlt f hf), fun h => by cases h⟩, S⟩
        · refine ite_f (by rw [decide_eq_true_eq]; exact fun h => hxs (mem_zi.mp h)) ?_
          walk_at "m"
          refine meth_e S F.se (by have := hsl F; omega) ?_
          walk_at "m"
          refine add_e S F.se (by have := hsl F; omega) fun s S => ?_
          refine ⟨rfl, ?_⟩
          have es : IsSe w (fun k' => decide (k' ∈ zi sn) || decide (k' = (x : Int))) (if decide ((x : Int) ∈ zi sn) = true then sn.length else sn.length + 1) = IsSe w (fun k => decide (k ∈ zi (sn ++ [x]))) (sn ++ [x]).length := by
            rw [if_neg (by rw [decide_eq_true_eq]; exact fun h => hxs (mem_zi.mp h))]
            congr 1
            · funext k'; rw [Bool.eq_iff_iff]; simp
            · simp
          rw [es] at S
          obtain ⟨n1, n2, n3, n4, n5, n6⟩ := F.ne
          have kea : ∀ b P, b ≠ ea → σ' b = some P → upd σ' ea (IsSe w (fun k => decide (k ∈ zi (sn ++ [x]))) (sn ++ [x]).length) b = some P := fun b P h e => by rw [upd_ne h]; exact e
          have dea : ∀ b P, σd b = some P → b ≠ ea := fun b P h c => by rw [c, F.off.2.2.1] at h; cases h
          obtain ⟨i1, i2, us, i3, i4⟩ := dinf x hx
          have j1 := kea _ _ (dea _ _ i1) (F.ext _ _ i1)
          have j2 := kea _ _ (dea _ _ i2) (F.ext _ _ i2)
          have j3 := kea _ _ (dea _ _ i3) (F.ext _ _ i3)
          walk_at "m"
          refine method_l S (kea _ _ n4 F.it) PySem.F.slot_list_append PySem.F.type_list_append ?_
          walk_at "m"
          refine item_de S (kea _ _ (dea _ _ dnd) (F.ext _ _ dnd)) (by rw [← hkv]; exact valueAt_map hx) fun s S => ?_
          walk_at "m"
          refine ni_su hB S j1 j2 fun s S => ?_
          walk_at "m"
          refine iter_b S j3 fun It s hI S => ?_
          walk_at "m"
          refine attr_next S hI fun u s hu hne S => ?_
          walk_at "m"
          have hIe : It ≠ ea := (by first | exact ne_sn hI upd_self | exact ne_ns hI upd_self | exact ne_sn upd_self hI | exact ne_ns upd_self hI)
          have hue : u ≠ ea := (by first | exact ne_sn hu upd_self | exact ne_ns hu upd_self | exact ne_sn upd_self hu | exact ne_ns upd_self hu)
          have hI' : σ' It = none := by rwa [upd_ne hIe] at hI
          have hu' : σ' u = none := by rwa [upd_ne hue] at hu
          have old : ∀ b P, b ≠ ea → σ' b = some P → upd (upd (upd σ' ea (IsSe w (fun k => decide (k ∈ zi (sn ++ [x]))) (sn ++ [x]).length)) It (IsLi (a.sus x) 0)) u (IsBn It) b = some P := fun b P h e => by
            rw [upd_ne ((by first | exact ne_sn e hu' | exact ne_ns e hu' | exact ne_sn hu' e | exact ne_ns hu' e)), upd_ne ((by first | exact ne_sn e hI' | exact ne_ns e hI' | exact ne_sn hI' e | exact ne_ns hI' e)), upd_ne h]; exact e
          obtain ⟨vs, st1, st2⟩ := F.st
          have hvl : vs.length = fs.length := by have := st2.1; simpa using this
          have hfl' := hfl F
          refine append_l S (old _ _ n4 F.it) (by rw [sizeLine_eq]; simp; (clear hvl hi; omega)) fun s S => ?_
          refine ⟨rfl, ?_⟩
          walk_at "m"
          refine len_l S (by rw [upd_ne n1]; exact old _ _ n2 st1) (by omega) fun tl s S => ?_
          walk_at "m"
          have hkl : kvs.length = fs.length := by have := congrArg List.length di2; simpa using this
          refine set_d S (kvs := kvs) (by rw [upd_ne (Ne.symm n5)]; exact old _ _ (Ne.symm n6) di1) (by rw [sizeLine_eq]; (clear hvl hi; omega)) fun s S => ?_
          walk_at "m"
          refine method_l S (by rw [upd_ne n3, upd_ne n1]; exact old _ _ n2 st1) PySem.F.slot_list_append PySem.F.type_list_append ?_
          walk_at "m"
          refine append_l S (vs := vs) (by rw [upd_ne n3, upd_ne n1]; exact old _ _ n2 st1) (by rw [sizeLine_eq]; (clear hkl hi; omega)) fun s S => ?_
          refine ⟨rfl, ?_⟩
          walk_at "m"
          have est : stored kvs (x : Int) (.int vs.length tl) = kvs ++ [((x : Int), .int vs.length tl)] := by
            unfold stored
            rw [if_neg]
            intro c
            obtain ⟨q, hq, e⟩ := List.any_eq_true.mp c
            have hm : q.1 ∈ zi (fs.map (·.1)) := by rw [← di2]; exact List.mem_map.mpr ⟨q, hq, rfl⟩
            obtain ⟨y, hy, e'⟩ := List.mem_map.mp hm
            obtain ⟨f, hf, rfl⟩ := List.mem_map.mp hy
            have := hlt f hf
            simp at e
            rw [e] at e'
            (clear hkl hfl' hvl hi; omega)
          rw [est] at S
          have ema : (fs ++ [(x, u, It)]).map (fun f => Value.ref f.2.1) = fs.map (fun f => Value.ref f.2.1) ++ [.ref u] := by simp
          rw [← ema] at S
          refine ⟨rfl, _, _, ⟨sn ++ [x], fs ++ [(x, u, It)], true, rfl, F.push hx hxs hlt hI' hu' hne (by simpa using st2.snoc x tx) (by simp [di2]), ?_, fun _ => ⟨fs, u, It, rfl⟩⟩, S⟩
          intro f hf
          rcases List.mem_append.mp hf with h | h
          · exact Nat.le_of_lt (hlt f h)
          · simp at h; subst h; exact Nat.le_refl _
      · rintro l' σ' s ⟨sn, fs, fresh, rfl, F, hle, hfr⟩ S
        clear hlt
        refine wpAny_execs_cons ?_
        refine while_j (FcD w a nodes su σd sa ia ea da x tx) fs.length S ⟨sn, fs, fresh, rfl, rfl, F, hle, hfr⟩ ?_
        clear S F hle hfr fresh fs sn
        rintro m l' σ' s ⟨sn, fs, fresh, rfl, rfl, F, hle, hfr⟩ S
        obtain ⟨vs, st1, st2⟩ := F.st
        have hvl : vs.length = fs.length := by have := st2.1; simpa using this
        have hfl' := hfl F
        walk_at "m"
        refine truth_l S st1 (by omega) fun s S => ?_
        walk_at "m"
        rcases List.eq_nil_or_concat fs with e0 | ⟨fs0, f, e0⟩
        · subst e0
          have hv0 : vs = [] := List.length_eq_zero_iff.mp (by simpa using hvl)
          subst hv0
          have hff : fresh = false := by
            cases fresh with
            | false => rfl
            | true => obtain ⟨fs0, u, It, e⟩ := hfr rfl; simp at e
          subst hff
          refine ite_f (by simp) ?_
          walk_at "m"
          exact ⟨_, _, ⟨sn, _, rfl, F⟩, S⟩
        · have e1 : fs = fs0 ++ [f] := by simpa using e0
          subst e1
          refine ite_t (by
            have : vs ≠ [] := fun c => by rw [c] at hvl; simp at hvl
            cases vs with
            | nil => exact absurd rfl this
            | cons _ _ => rfl) ?_
          have hbn := F.bn f (by simp)
          have hit : σ' ia = some (IsL ((fs0.map fun f => Value.ref f.2.1) ++ [.ref f.2.1])) := by have := F.it; simpa using this
          have hfn := F.nod f (by simp)
          obtain ⟨i1, i2, us, i3, i4⟩ := dinf f.1 hfn
          have hli := F.li fs0.length f (by simp)
          refine wpAny_execs_cons (PySem.wpAny_Try_except ?_)
          walk_at "m"
          refine item_last S hit ?_
          walk_at "m"
          refine callWith_bn S hbn ?_
          by_cases hc : fresh = true ∧ su f.1 ≠ []
          · obtain ⟨hc1, hc2⟩ := hc
            subst hc1
            obtain ⟨fs1, u, It, e⟩ := hfr rfl
            have ef : f = (x, u, It) := by
              have := List.append_inj_right' e (by simp)
              simpa using this
            have efx : f.1 = x := by rw [ef]
            obtain ⟨q, hq⟩ : ∃ q, su f.1 = [q] := by
              have h1 := hs1 f.1 hfn
              match hh : su f.1 with
              | [] => exact absurd hh hc2
              | [q] => exact ⟨q, rfl⟩
              | a :: b :: c => rw [hh] at h1; simp at h1
            rw [if_pos (by simp)] at hli
            rw [hq] at i4
            obtain ⟨tq, hus⟩ := i4.get (i := 0) (k := (q : Int)) (by simp)
            have hqn := hs2 f.1 hfn q (by rw [hq]; simp)
            refine bn_item S hbn hli (F.ext _ _ i3) hus R'.handled fun s S => ?_
            walk_at "m"
            show wpAny _ _ (execs [] env) _ _ _
            walk_at "m"
            refine ⟨1000 - q, _, _, ?_, ⟨q, tq, sn, fs0 ++ [f], rfl, rfl, hqn.1, F.take (by rw [hq]; rfl), fun g hg => ?_⟩, S⟩
            · have := hn q hqn.1
              (clear hfl' hvl hi; omega)
            · have := hle g hg
              (clear hfl' hvl hi; omega)
          · have F2 : Fc w a nodes su σd σ' ⟨sa, ia, ea, da⟩ (fs0 ++ [f]) false sn := by
              cases fresh with
              | false => exact F
              | true => exact F.old (Classical.byContradiction fun c => hc ⟨rfl, c⟩)
            have hli2 := F2.li fs0.length f (by simp)
            simp only [Bool.false_eq_true, false_and, if_false] at hli2
            have hul : us[(su f.1).length]? = none := by
              rw [List.getElem?_eq_none_iff, i4.1]; simp
            refine bn_end S hbn hli2 (F.ext _ _ i3) hul R'.handled fun xe s he S => ?_
            have hfI : xe ≠ f.2.2 := (by first | exact ne_sn he hli2 | exact ne_ns he hli2 | exact ne_sn hli2 he | exact ne_ns hli2 he)
            refine catch_stop F'' S (by rw [upd_ne hfI]; exact he) (fun A2 s2 σ2 Q2 E2 S2 h2 => name_g eG S2 (by walk_at "mm") h2) fun s S => ?_
            obtain ⟨⟨g1, g2, g3, g4⟩, ⟨g5, g6, g7, g8⟩⟩ := F2.fne f (by simp)
            obtain ⟨n1, n2, n3, n4, n5, n6⟩ := F2.ne
            have hst2 : Ints vs (zi (fs0.map (·.1) ++ [f.1])) := by simpa using st2
            obtain ⟨vs1, v1, rfl⟩ : ∃ vs1 v1, vs = vs1 ++ [v1] := by
              rcases List.eq_nil_or_concat vs with h | ⟨a, b, h⟩
              · rw [h] at hvl; simp at hvl
              · exact ⟨a, b, by simpa using h⟩
            have hl1 : vs1.length = fs0.length := by simpa using hvl
            obtain ⟨z1, tz1, hz1, rfl⟩ := hst2.at (i := vs1.length) (v := v1) (by simp)
            have ez1 : z1 = (f.1 : Int) := by
              rw [hl1] at hz1
              simp at hz1
              exact hz1.symm
            subst ez1
            have hv1 : Ints vs1 (zi (fs0.map (·.1))) := by
              have := hst2.take fs0.length
              rw [List.take_left' hl1] at this
              simpa using this
            obtain ⟨kvs, di1, di2⟩ := F2.di
            have hnin : f.1 ∉ fs0.map (·.1) := fun c => by
              have := F2.inc
              rw [List.map_append, List.pairwise_append] at this
              exact absurd (this.2.2 f.1 c f.1 (by simp)) (Nat.lt_irrefl _)
            have hkl : kvs.length = fs0.length + 1 := by have := congrArg List.length di2; simpa using this
            have hval : (valueAt kvs (f.1 : Int)).isSome = true := by
              have hm : (f.1 : Int) ∈ kvs.map (·.1) := by rw [di2]; simp
              obtain ⟨q, hq, eq⟩ := List.mem_map.mp hm
              unfold valueAt
              rw [Option.isSome_map, List.find?_isSome]
              exact ⟨q, hq, by simp [eq]⟩
            have hwo : (without kvs (f.1 : Int)).map (·.1) = zi (fs0.map (·.1)) := by
              unfold without
              have h1 : (kvs.filter fun kv => decide (kv.1 ≠ (f.1 : Int))).map (·.1) = (kvs.map (·.1)).filter fun z => decide (z ≠ (f.1 : Int)) := by rw [List.filter_map]; rfl
              rw [h1, di2, List.map_append, zi, List.map_append, List.filter_append]
              have h2 : (List.map (fun p : Nat => (p : Int)) (fs0.map (·.1))).filter (fun z => decide (z ≠ (f.1 : Int))) = List.map (fun p : Nat => (p : Int)) (fs0.map (·.1)) := by
                rw [List.filter_eq_self]
                intro z hz
                obtain ⟨y, hy, rfl⟩ := List.mem_map.mp hz
                simp only [decide_eq_true_eq]
                intro c
                have : y = f.1 := by (clear hkl hvl hl1 hfl' hi; omega)
                exact hnin (this ▸ hy)
              rw [h2]
              simp
            have hfl2 : fs0.length + 1 < 2000 := by simpa using hfl'
            refine wpAny_execs_cons (PySem.wpAny_Delete (PySem.wpAny_deleteEach_cons (PySem.wpAny_delete_Subscript ?_)))
            walk_at "m"
            refine method_l S (vs := vs1 ++ [.int f.1 tz1]) (by rw [upd_ne (Ne.symm g5)]; exact st1) PySem.F.slot_list_pop PySem.F.type_list_pop ?_
            walk_at "m"
            refine pop_l S (by rw [upd_ne (Ne.symm g5)]; exact st1) (by rw [sizeLine_eq]; (clear hkl hvl hfl' hi; omega)) fun s S => ?_
            refine del_d S (kvs := kvs) (by rw [upd_ne (Ne.symm n3), upd_ne (Ne.symm g8)]; exact di1) hval (by rw [sizeLine_eq]; (clear hl1 hvl hfl' hi; omega)) fun s S => ?_
            refine PySem.wpAny_deleteEach_nil ?_
            refine wpAny_execs_cons (PySem.wpAny_Expr_any ?_ (by unfold interactive; simp [e.kind]) (by with_unfolding_all rfl))
            walk_at "m"
            refine method_l S (vs := (fs0.map fun f => Value.ref f.2.1) ++ [.ref f.2.1]) (by rw [upd_ne n5, upd_ne (Ne.symm n1), upd_ne (Ne.symm g6)]; exact hit) PySem.F.slot_list_pop PySem.F.type_list_pop ?_
            walk_at "m"
            refine pop_l S (by rw [upd_ne n5, upd_ne (Ne.symm n1), upd_ne (Ne.symm g6)]; exact hit) (by rw [sizeLine_eq]; simp; (clear hl1 hkl hvl hfl' hi; omega)) fun s S => ?_
            walk_at "m"
            refine ⟨fs0.length, _, _, by simp, ⟨sn, fs0, false, rfl, rfl, F2.pop hv1 hwo, fun g hg => hle g (by simp [hg]), fun h => by cases h⟩, S⟩
    · rintro l' σ' s ⟨sn, l7, rfl, F⟩ S
      walk_at "m"
      have S2 := S.closeD (F.ext _ _ dnd)
      exact ⟨_, _, S2, fun s S => k _ s (fin _ F.ext) S⟩
  · intro v σ' s'' h S''; exact h s'' S''
end
end
section
open PySem PySem.W PyProof.Rows
section
variable {w : World} {B : Heap} {A : Around} {L : Addr} {N : List (Str × Option Addr)} {l : List (Option Value)} {σ : Own} {φ : Frz} {s₀ s : Shared} {E : Value → Shared → Prop} {env : Env}
variable {σ₀ : Own} {a : SA} {nodes : List Nat} {np : Nat → Int} {su : Nat → List Nat} {rd : Option (List Nat)} {npo nfi : Int}
theorem St.dictE {d : Addr} {kvs : List (Int × Value)} {ep : Nat} (S : St B L N l σ φ s₀ s) (h : σ d = some (IsDE w kvs ep)) : s.heap.DictOf (intKind PR w) d kvs := by
  obtain ⟨o, ho, es, r⟩ := S.own d _ h
  exact Heap.dictOf_iff.mpr ⟨o, ho, es, ep, r⟩
theorem meth_de {d : Addr} {kvs : List (Int × Value)} {ep : Nat} {name : Str} {id : String} {pl : Sem Bool} {Q : Value × List Value → Shared → Prop} (S : St B L N l σ φ s₀ s) (h : σ d = some (IsDE w kvs ep)) (slot : Slot "dict" name id) (hty : typeOf (.builtin id) = pure (.type "method_descriptor"))
    (hq : Q (.builtin id, [.ref d]) s) : wpAny (model PR w) A (getMethod (.ref d) name pl) Q E s :=
  getMethod_builtin (S.dictE h).typeIs PySem.F.plainAttrs_dict slot hty (S.dictE h).mapOf.noDict hq
theorem values_de {d : Addr} {kvs : List (Int × Value)} {ep : Nat} {Q : Value → Shared → Prop} (hB : Base w B) (S : St B L N l σ φ s₀ s) (h : σ d = some (IsDE w kvs ep)) (hq : ∀ a s', σ a = none → St B L N l (upd σ a (IsVw d)) φ s₀ s' → Q (.ref a) s') :
    wpAny (model PR w) A (call (.builtin "dict.values") [.ref d]) Q E s :=
  call_meetsIn PySem.F.slot_dict_values (S.dictE h).typeIs PySem.F.entry_dict_values (PySem.F.args_dict_values_1 _) (meets_dict_values (intKind PR w) d (S.off0 hB h)) ⟨⟨kvs, S.dictE h⟩, hq _ _ S.fresh (S.alloc (P := IsVw d) rfl ⟨rfl, rfl⟩ s.toks)⟩
/-- the list of those ready is there -/
noncomputable def SA.prep (a : SA) (D : Addr) : SA := { a with ra := D, tag := fun b => if b = D then (6, 0) else a.tag b }
theorem Srt.prep (I : Srt w σ₀ σ a nodes np su none npo nfi) {D : Addr} {ys : List Value} {rs : List Nat} (hD : σ D = none) (hi : Ints ys (zi rs)) (t3 t4 : Tok) :
    Srt w σ₀ (upd (upd σ D (IsL ys)) a.dx (IsAt (.ref a.nd) (.ref D) (.int npo t3) (.int nfi t4))) (a.prep D) nodes np su (some rs) npo nfi := by
  have nw : ∀ b P, σ b = some P → b ≠ D := fun b P e c => by rw [c, hD] at e; cases e
  obtain ⟨u3, u4, hdx⟩ := I.hdx
  have tg : ∀ b P, σ b = some P → (a.prep D).tag b = a.tag b := fun b P e => by simp [SA.prep, nw b P e]
  have keep : ∀ b P, b ≠ a.dx → σ b = some P → upd (upd σ D (IsL ys)) a.dx (IsAt (.ref a.nd) (.ref D) (.int npo t3) (.int nfi t4)) b = some P := fun b P h e => by rw [upd_ne h, upd_ne (nw b P e)]; exact e
  refine { ext := (I.ext.upd (I.ext.none hD)).upd I.n0.2.1, tx := (tg _ _ I.hx).trans I.tx, tdx := (tg _ _ hdx).trans I.tdx, tnd := (tg _ _ I.hnd).trans I.tnd, tra := fun _ => (by simp [SA.prep]), tin := fun p hp => ?_, n0 := ⟨I.n0.1, I.n0.2.1, I.n0.2.2.1, fun _ => I.ext.none hD⟩, n1 := I.n1, hx := keep _ _ (tag_ne I.tx I.tdx (by simp)) I.hx, hdx := ⟨t3, t4, upd_self⟩, hnd := keep _ _ (tag_ne I.tnd I.tdx (by simp)) I.hnd, hra := fun rs' e => ?_, info := fun p hp => ?_, nodup := I.nodup }
  · obtain ⟨i1, i2, vs, i3, _⟩ := I.info p hp
    obtain ⟨u1, u2, u3⟩ := I.tin p hp
    exact ⟨(tg _ _ i1).trans u1, (tg _ _ i2).trans u2, (tg _ _ i3).trans u3⟩
  · cases e
    refine ⟨ys, ?_, hi⟩
    show upd _ a.dx _ D = _
    rw [upd_ne (Ne.symm (nw _ _ hdx)), upd_self]
  · obtain ⟨i1, i2, vs, i3, i4⟩ := I.info p hp
    obtain ⟨u1, u2, u3⟩ := I.tin p hp
    exact ⟨keep _ _ (tag_ne u1 I.tdx (by simp)) i1, keep _ _ (tag_ne u2 I.tdx (by simp)) i2, vs, keep _ _ (tag_ne u3 I.tdx (by simp)) i3, i4⟩
theorem prep_spec (hB : Base w B) (R : Rm A 8) (F : FmAny A φ B L) (S : St B L N l σ φ s₀ s) (I : Srt w σ₀ σ a nodes np su none npo nfi) (hnl : nodes.length < 1000) (hn : ∀ p ∈ nodes, p < 1000) (hs1 : ∀ p ∈ nodes, (su p).length ≤ 1) (hs2 : ∀ p ∈ nodes, ∀ q ∈ su p, q ∈ nodes ∧ p < q) {Q : Value → Shared → Prop}
  (k : ∀ D σ' s', Srt w σ₀ σ' (a.prep D) nodes np su (some (nodes.filter fun p => decide (np p = 0))) npo nfi → St B L N l σ' φ s₀ s' → Q .none s') :
  wpAny (model PR w) A (call (.ref 127) [.ref a.x]) Q E s := by
  refine call_stF [(nm "self", false), (nm "cycle", false)] [some (.ref a.x), none] []
    (fun v σ' => ∀ s, St B L N l σ' φ s₀ s → Q v s)
    S (by have := R.depth; omega) hB.lim (hB.globs rfl) (hB.X _ _ rfl) rfl (codeRec_of hB.X rfl) rfl rfl rfl rfl rfl (cells_loc rfl) (no_cells rfl) (by decide) rfl (by walk_at "init") ?_ ?_
  · intro env A' L' κ φ' s' _ e eG dA hF S'
    have R' := R.deeper dA
    have F' := hF F
    dsimp only [List.map] at S' e ⊢
    dsimp only [cond] at S' e ⊢
    obtain ⟨t3, t4, hdx⟩ := I.hdx
    refine fld_in fun KK hKK => ?_
    refine wpAny_execs_cons (wpAny_If ?_)
    walk_at "m"
    refine get_rdy hB S' I.hx hdx rfl fun s S => ?_
    walk_at "m"
    refine ite_f (by simp [rdv]) ?_
    walk_at "m"
    obtain ⟨ep, S⟩ := S.openD I.hnd
    generalize hkv : (nodes.map fun p : Nat => ((p : Int), Value.ref (a.inf p))) = kvs0 at S
    have hkl : kvs0.length = nodes.length := by rw [← hkv]; simp
    have keep : ∀ b P, b ≠ a.nd → σ b = some P → upd σ a.nd (IsDE w kvs0 ep) b = some P := fun b P h e => by rw [upd_ne h]; exact e
    refine comp_j kvs0.length (fun i v => ∃ k, kvs0[i]? = some (k, v)) (needD w a.nd kvs0 ep) (fun i ys σ'' => σ'' = upd σ a.nd (IsDE w kvs0 ep) ∧ Ints ys (zi ((nodes.take i).filter fun p => decide (np p = 0)))) [nm "i"] [] [] []
      S e (envF_nil e) (compOk_of rfl eG (fun _ h => nomatch h) (fun _ h => nomatch h)) ?_ ?_ (by rw [sizeLine_eq]; omega) ?_ ?_ ?_ (fun _ _ => rfl) (by with_unfolding_all (intro _; rfl))
    · walk_at "m"
      refine get_n2i hB S (keep _ _ (tag_ne I.tx I.tnd (by simp)) I.hx) (keep _ _ (tag_ne I.tdx I.tnd (by simp)) hdx) rfl fun s S => ?_
      walk_at "m"
      refine meth_de S upd_self PySem.F.slot_dict_values PySem.F.type_dict_values ?_
      walk_at "m"
      refine values_de hB S upd_self fun v s hv S => ?_
      walk_at "m"
      exact iter_vals R'.handled S hv upd_self fun it s r => ⟨_, r, rfl, by simpa using Ints.nil⟩
    · rintro i ys σ'' ⟨rfl, _⟩; exact upd_self
    · rintro i ys σ'' ⟨_, h⟩
      rw [h.1]
      simp
      exact Nat.le_trans (List.length_filter_le _ _) (by simp; (clear hkl; omega))
    · rintro i v ys σ'' cenv C φ2 s hi ⟨z, hz⟩ ⟨rfl, hys⟩ e2 eF2 eG2 S
      obtain ⟨p, hp, rfl⟩ : ∃ p, nodes[i]? = some p ∧ v = .ref (a.inf p) := by
        rw [← hkv] at hz
        simp at hz
        obtain ⟨p, h1, h2, h3⟩ := hz
        exact ⟨p, h1, h3.symm⟩
      have hpm := List.mem_of_getElem? hp
      obtain ⟨i1, i2, _⟩ := I.info p hpm
      obtain ⟨u1, u2, _⟩ := I.tin p hpm
      have j1 := keep _ _ (tag_ne u1 I.tnd (by simp)) i1
      have j2 := keep _ _ (tag_ne u2 I.tnd (by simp)) i2
      have ht : nodes.take (i + 1) = nodes.take i ++ [p] := by rw [List.take_add_one, hp]; rfl
      dsimp only [List.map] at S e2 ⊢
      walk_at "m"
      refine ni_np hB S j1 j2 fun t1 s S => ?_
      walk_at "m"
      by_cases c : np p = 0
      · refine ite_t (by simpa using c) ?_
        walk_at "m"
        refine ni_node hB S j1 j2 fun t2 s S => ?_
        walk_at "m"
        refine ⟨_, _, ⟨rfl, ?_⟩, S⟩
        rw [ht, List.filter_append]
        have : [p].filter (fun p => decide (np p = 0)) = [p] := by simp [c]
        rw [this]
        simpa using hys.snoc p t2
      · refine ite_f (by simpa using c) ?_
        refine ⟨_, _, ⟨rfl, ?_⟩, S⟩
        rw [ht, List.filter_append]
        have : [p].filter (fun p => decide (np p = 0)) = [] := by simp [c]
        rw [this]
        simpa using hys
    · rintro D ys σ'' s ⟨rfl, hys⟩ hD S
      rw [List.take_of_length_le (by omega)] at hys
      have hDn : D ≠ a.nd := (by first | exact ne_sn hD upd_self | exact ne_ns hD upd_self | exact ne_sn upd_self hD | exact ne_ns upd_self hD)
      have hD0 : σ D = none := by rwa [upd_ne hDn] at hD
      have S2 := S.closeD (d := a.nd) (kvs := kvs0) (ep := ep) (by rw [upd_ne (Ne.symm hDn), upd_self])
      have S3 := S2.forget (σ' := upd σ D (IsL ys)) fun b P q => by
        by_cases c : b = a.nd
        · subst c
          rw [upd_ne (Ne.symm hDn)] at q
          rw [upd_self, ← hkv, ← I.hnd]; exact q
        · rw [upd_ne c]
          by_cases c2 : b = D
          · subst c2; rw [upd_self] at q ⊢; exact q
          · rw [upd_ne c2] at q ⊢; rw [upd_ne c]; exact q
      clear S S2
      have nw : ∀ b P, σ b = some P → upd σ D (IsL ys) b = some P := fun b P e => upd_none hD0 e
      walk_at "m"
      refine set_rdy hB S3 (nw _ _ I.hx) (nw _ _ hdx) fun s S => ?_
      have I2 := I.prep hD0 hys t3 t4
      obtain ⟨u3, u4, hdx2⟩ := I2.hdx
      walk_at "m"
      refine meth_at hB S I2.hx hdx2 rfl rfl rfl (fun _ _ _ _ _ _ _ _ => rfl) ?_
      walk_at "m"
      refine fc_spec hB (R'.less (by omega)) (.inl ⟨env, F'⟩) S I2 hn hs1 hs2 fun σ' s' hx S => ?_
      walk_at "m"
      refine wpAny_If ?_
      walk_at "m"
      refine PyProof.Rows.truthy_none ?_
      refine ite_f (by simp) ?_
      walk_at "m"
      exact ⟨_, _, S, fun s S => k _ _ s (I2.more hx) S⟩
  · intro v σ' s'' h S''; exact h s'' S''
end
end
section
open PySem PySem.W PyProof.Rows
section
variable {w : World} {σ₀ σ : Own} {a : SA} {nodes : List Nat} {np : Nat → Int} {su : Nat → List Nat} {rd : Option (List Nat)} {npo nfi : Int}
/-- an object beside the sorter is changed -/
theorem Srt.put (I : Srt w σ₀ σ a nodes np su rd npo nfi) {b : Addr} {P P' : Obj → Prop} (hb : σ₀ b = some P) : Srt w (upd σ₀ b P') (upd σ b P') a nodes np su rd npo nfi := by
  have ne : ∀ {x}, σ₀ x = none → x ≠ b := fun {x} h c => by rw [c, hb] at h; cases h
  obtain ⟨t3, t4, hdx⟩ := I.hdx
  refine { I with ext := fun x Q e => ?_, n0 := ⟨?_, ?_, ?_, fun h => ?_⟩, n1 := fun p hp => ⟨?_, ?_, ?_⟩, hx := ?_, hdx := ⟨t3, t4, ?_⟩, hnd := ?_, hra := fun rs e => ?_, info := fun p hp => ?_ }
  · by_cases c : x = b
    · subst c; rw [upd_self] at e ⊢; exact e
    · rw [upd_ne c] at e ⊢; exact I.ext x Q e
  · rw [upd_ne (ne I.n0.1)]; exact I.n0.1
  · rw [upd_ne (ne I.n0.2.1)]; exact I.n0.2.1
  · rw [upd_ne (ne I.n0.2.2.1)]; exact I.n0.2.2.1
  · rw [upd_ne (ne (I.n0.2.2.2 h))]; exact I.n0.2.2.2 h
  · rw [upd_ne (ne (I.n1 p hp).1)]; exact (I.n1 p hp).1
  · rw [upd_ne (ne (I.n1 p hp).2.1)]; exact (I.n1 p hp).2.1
  · rw [upd_ne (ne (I.n1 p hp).2.2)]; exact (I.n1 p hp).2.2
  · rw [upd_ne (ne I.n0.1)]; exact I.hx
  · rw [upd_ne (ne I.n0.2.1)]; exact hdx
  · rw [upd_ne (ne I.n0.2.2.1)]; exact I.hnd
  · rw [upd_ne (ne (I.n0.2.2.2 (by rw [e]; rfl)))]; exact I.hra rs e
  · obtain ⟨i1, i2, vs, i3, i4⟩ := I.info p hp
    obtain ⟨m1, m2, m3⟩ := I.n1 p hp
    rw [upd_ne (ne m1), upd_ne (ne m2), upd_ne (ne m3)]; exact ⟨i1, i2, vs, i3, i4⟩
end
/-! the order, told plainly -/
def Free (par : Nat → Option Nat) (n : Nat) (dn : List Nat) (p : Nat) : Prop := p < n ∧ p ∉ dn ∧ ∀ c, c < n → par c = some p → c ∈ dn
def Pick (par : Nat → Option Nat) (ks : Nat → Int) (n : Nat) (dn : List Nat) (p : Nat) : Prop := Free par n dn p ∧ ∀ q, Free par n dn q → lexlt ks q p = false
def Picks (par : Nat → Option Nat) (ks : Nat → Int) (n : Nat) (ord : List Nat) : Prop := ∀ i p, ord[i]? = some p → Pick par ks n (ord.take i) p
theorem lexlt_tri {ks : Nat → Int} {p q : Nat} (h1 : lexlt ks p q = false) (h2 : lexlt ks q p = false) : p = q := by
  simp [lexlt] at h1 h2; omega
theorem Pick.uniq {par : Nat → Option Nat} {ks : Nat → Int} {n : Nat} {dn : List Nat} {p q : Nat} (h1 : Pick par ks n dn p) (h2 : Pick par ks n dn q) : p = q := lexlt_tri (h2.2 p h1.1) (h1.2 q h2.1)
theorem Picks.uniq {par : Nat → Option Nat} {ks : Nat → Int} {n : Nat} {o1 o2 : List Nat} (h1 : Picks par ks n o1) (h2 : Picks par ks n o2) (hl : o1.length = o2.length) : o1 = o2 := by
  have key : ∀ i, i ≤ o1.length → o1.take i = o2.take i := by
    intro i
    induction i with
    | zero => intro _; simp
    | succ i ih =>
      intro hi
      have e := ih (by omega)
      have a1 : o1[i]? = some o1[i] := by simp
      have a2 : o2[i]? = some o2[i] := by simp
      have p1 := h1 i _ a1
      have p2 := h2 i _ a2
      rw [← e] at p2
      rw [List.take_add_one, List.take_add_one, a1, a2, e, p1.uniq p2]
  have := key o1.length (Nat.le_refl _)
  rw [List.take_length, hl, List.take_length] at this
  exact this
theorem Picks.snoc {par : Nat → Option Nat} {ks : Nat → Int} {n : Nat} {ord : List Nat} {p : Nat} (h : Picks par ks n ord) (hp : Pick par ks n ord p) : Picks par ks n (ord ++ [p]) := fun i q hq => by
  by_cases c : i < ord.length
  · rw [List.getElem?_append_left c] at hq
    rw [List.take_append_of_le_length (by omega)]; exact h i q hq
  · have hl := (List.getElem?_eq_some_iff.mp hq).1
    simp at hl
    have e : i = ord.length := by omega
    subst e
    simp at hq
    subst hq
    simpa using hp
end
section
/-- the children of q that are not done -/
noncomputable def kids (par : Nat → Option Nat) (n : Nat) (dn : List Nat) (q : Nat) : List Nat := (List.range n).filter fun c => decide (par c = some q) && !decide (c ∈ dn)
/-- how the run stands: done, in the heap, ready -/
structure RS (par : Nat → Option Nat) (n : Nat) (ord hs rs : List Nat) (np : Nat → Int) : Prop where
  nod : (ord ++ hs ++ rs).Nodup
  iff : ∀ q, (q ∈ hs ∨ q ∈ rs) ↔ Free par n ord q
  ordn : ∀ q ∈ ord, q < n
  cl : ∀ q ∈ ord, ∀ c, c < n → par c = some q → c ∈ ord
  nph : ∀ q ∈ hs, np q = -1
  npr : ∀ q ∈ rs, np q = 0
  npw : ∀ q, q < n → q ∉ ord → q ∉ hs → q ∉ rs → np q = ((kids par n ord q).length : Nat)
variable {par : Nat → Option Nat} {n : Nat} {ord hs rs : List Nat} {np : Nat → Int}
theorem kids_nil {q : Nat} (h : q < n) (hq : q ∉ ord) : Free par n ord q ↔ kids par n ord q = [] := by
  unfold Free kids
  rw [List.filter_eq_nil_iff]
  constructor
  · rintro ⟨_, _, h3⟩ c hc
    simp only [Bool.and_eq_true, decide_eq_true_eq, Bool.not_eq_true', decide_eq_false_iff_not, not_and, Classical.not_not]
    exact fun e => h3 c (List.mem_range.mp hc) e
  · intro h3
    refine ⟨h, hq, fun c hc e => ?_⟩
    have := h3 c (List.mem_range.mpr hc)
    simp only [Bool.and_eq_true, decide_eq_true_eq, Bool.not_eq_true', decide_eq_false_iff_not, not_and, Classical.not_not] at this
    exact this e
theorem RS.start (h : ∀ q, q < n → np q = ((kids par n [] q).length : Nat)) (nodes : List Nat) (hn : nodes.Nodup) (hm : ∀ q, q ∈ nodes ↔ q < n) : RS par n [] [] (nodes.filter fun p => decide (np p = 0)) np := by
  refine { nod := ?_, iff := fun q => ?_, ordn := fun q hq => (nomatch hq), cl := fun q hq => (nomatch hq), nph := fun q hq => (nomatch hq), npr := fun q hq => (by simpa using (List.mem_filter.mp hq).2), npw := fun q hq _ _ _ => h q hq }
  · simp only [List.nil_append]; exact hn.filter _
  simp only [List.not_mem_nil, false_or, List.mem_filter, decide_eq_true_eq]
  constructor
  · rintro ⟨h1, h2⟩
    have hq := (hm q).mp h1
    rw [h q hq] at h2
    exact (kids_nil hq (by simp)).mpr (List.length_eq_zero_iff.mp (by omega))
  · intro hf
    refine ⟨(hm q).mpr hf.1, ?_⟩
    rw [h q hf.1, (kids_nil hf.1 (by simp)).mp hf]; rfl
theorem RS.ready {hs' : List Nat} (R : RS par n ord hs rs np) (p : hs'.Perm (hs ++ rs)) : RS par n ord hs' [] (fun q => if q ∈ rs then -1 else np q) := by
  have hm : ∀ q, q ∈ hs' ↔ q ∈ hs ∨ q ∈ rs := fun q => by rw [p.mem_iff, List.mem_append]
  refine { nod := ?_, iff := fun q => ?_, ordn := R.ordn, cl := R.cl, nph := fun q hq => ?_, npr := fun q hq => (nomatch hq), npw := fun q h1 h2 h3 h4 => ?_ }
  · have := R.nod
    rw [List.append_assoc] at this
    simp only [List.append_nil]
    exact (List.Perm.append_left ord p.symm).nodup_iff.mp this
  · rw [← R.iff q, hm q]; simp
  · show (if q ∈ rs then (-1 : Int) else np q) = -1
    split
    · rfl
    · rename_i c; exact R.nph q (((hm q).mp hq).resolve_right c)
  · rw [hm q] at h3
    show (if q ∈ rs then (-1 : Int) else np q) = _
    rw [if_neg (fun c => h3 (.inr c))]
    exact R.npw q h1 h2 (fun c => h3 (.inl c)) (fun c => h3 (.inr c))
theorem kids_snoc {p q : Nat} : kids par n (ord ++ [p]) q = (kids par n ord q).filter fun c => !decide (c = p) := by
  unfold kids
  rw [List.filter_filter]
  congr 1
  funext c
  rw [Bool.eq_iff_iff]
  simp
  constructor
  · rintro ⟨h1, h2, h3⟩; exact ⟨h3, h1, h2⟩
  · rintro ⟨h1, h2, h3⟩; exact ⟨h2, h3, h1⟩
theorem kids_nodup {q : Nat} : (kids par n ord q).Nodup := List.Nodup.sublist List.filter_sublist List.nodup_range
theorem mem_kids {c q : Nat} : c ∈ kids par n ord q ↔ c < n ∧ par c = some q ∧ c ∉ ord := by
  unfold kids; simp
theorem filter_ne_len {p : Nat} : ∀ {l : List Nat}, l.Nodup → p ∈ l → (l.filter fun c => !decide (c = p)).length + 1 = l.length
  | a :: r, hn, h => by
    have hn' := List.nodup_cons.mp hn
    by_cases e : a = p
    · subst e
      have : r.filter (fun c => !decide (c = a)) = r := by
        rw [List.filter_eq_self]; intro c hc; simp; exact fun e => hn'.1 (e ▸ hc)
      simp [this]
    · have hp : p ∈ r := (List.mem_cons.mp h).resolve_left (Ne.symm e)
      have := filter_ne_len hn'.2 hp
      simp [e]; omega
theorem filter_ne_self {p : Nat} {l : List Nat} (h : p ∉ l) : (l.filter fun c => !decide (c = p)) = l := by
  rw [List.filter_eq_self]; intro c hc; simp; exact fun e => h (e ▸ hc)
theorem RS.done {hs' : List Nat} {p : Nat} (R : RS par n ord hs [] np) (hpar : ∀ p q, p < n → par p = some q → p < q ∧ q < n) (h : hs.Perm (p :: hs')) :
    RS par n (ord ++ [p]) hs' (rdDone np [] (par p).toList) (npDone np p (par p).toList) := by
  have hm : ∀ q, q ∈ hs ↔ q = p ∨ q ∈ hs' := fun q => by rw [h.mem_iff, List.mem_cons]
  have nd : (ord ++ p :: hs').Nodup := by
    have := R.nod
    rw [List.append_nil] at this
    exact (List.Perm.append_left ord h).nodup_iff.mp this
  have nd2 := List.nodup_append.mp nd
  have hpo : p ∉ ord := fun c => nd2.2.2 p c p (.head _) rfl
  have hph : p ∉ hs' := (List.nodup_cons.mp nd2.2.1).1
  have hF : ∀ q, q ∈ hs ↔ Free par n ord q := fun q => by rw [← R.iff q]; simp
  have fp : Free par n ord p := (hF p).mp ((hm p).mpr (.inl rfl))
  have frees : ∀ q, par p ≠ some q → (q ∈ hs' ↔ Free par n (ord ++ [p]) q) := fun q hq => by
    constructor
    · intro h1
      obtain ⟨f1, f2, f3⟩ := (hF q).mp ((hm q).mpr (.inr h1))
      refine ⟨f1, ?_, fun c hc e => by simp [f3 c hc e]⟩
      simp; exact ⟨f2, fun e => hph (e ▸ h1)⟩
    · rintro ⟨f1, f2, f3⟩
      simp at f2
      have : Free par n ord q := ⟨f1, f2.1, fun c hc e => by
        have := f3 c hc e
        simp at this
        rcases this with h | h
        · exact h
        · subst h; exact absurd e hq⟩
      exact ((hm q).mp ((hF q).mpr this)).resolve_left f2.2
  have base : ∀ q, q ≠ p → (q ∈ ord ++ [p] ↔ q ∈ ord) := fun q hq => by simp [hq]
  have cl' : ∀ q ∈ ord ++ [p], ∀ c, c < n → par c = some q → c ∈ ord ++ [p] := fun q hq c hc e => by
    rcases List.mem_append.mp hq with h1 | h1
    · simp [R.cl q h1 c hc e]
    · simp at h1; subst h1; simp [fp.2.2 c hc e]
  have ordn' : ∀ q ∈ ord ++ [p], q < n := fun q hq => by
    rcases List.mem_append.mp hq with h1 | h1
    · exact R.ordn q h1
    · simp at h1; subst h1; exact fp.1
  have nd3 : (ord ++ [p] ++ hs').Nodup := by simpa using nd
  cases hp : par p with
  | none =>
    have e1 : rdDone np [] (none : Option Nat).toList = [] := by simp [rdDone]
    rw [e1]
    refine { nod := by simpa using nd, iff := fun q => ?_, ordn := ordn', cl := cl', nph := fun q hq => ?_, npr := fun q hq => (nomatch hq), npw := fun q h1 h2 h3 _ => ?_ }
    · rw [← frees q (by rw [hp]; exact fun e => by cases e)]; simp
    · have : q ≠ p := fun e => hph (e ▸ hq)
      simp [npDone, this]; exact R.nph q ((hm q).mpr (.inr hq))
    · simp at h2
      simp [npDone, h2.2]
      rw [kids_snoc, filter_ne_self (by rw [mem_kids]; rintro ⟨_, e, _⟩; rw [hp] at e; cases e)]
      exact R.npw q h1 h2.1 (fun c => (((hm q).mp c).elim h2.2 h3)) (by simp)
  | some q0 =>
    obtain ⟨hlt, hq0n⟩ := hpar p q0 fp.1 hp
    have hne : q0 ≠ p := by omega
    have hq0o : q0 ∉ ord := fun c => hpo (R.cl q0 c p fp.1 hp)
    have hq0h : q0 ∉ hs := fun c => hpo (((hF q0).mp c).2.2 p fp.1 hp)
    have hpk : p ∈ kids par n ord q0 := mem_kids.mpr ⟨fp.1, hp, hpo⟩
    have hnp : np q0 = ((kids par n ord q0).length : Nat) := R.npw q0 hq0n hq0o hq0h (by simp)
    have hlen := filter_ne_len kids_nodup hpk
    rw [← kids_snoc] at hlen
    have hf0 : Free par n (ord ++ [p]) q0 ↔ np q0 = 1 := by
      rw [kids_nil hq0n (by simp [hq0o, hne]), hnp]
      constructor
      · intro e; rw [e] at hlen; simp at hlen; omega
      · intro e; exact List.length_eq_zero_iff.mp (by omega)
    have hmr : ∀ q, q ∈ rdDone np [] (some q0).toList ↔ q = q0 ∧ np q0 = 1 := fun q => by
      simp [rdDone]
      rintro rfl; rfl
    refine { nod := ?_, iff := fun q => ?_, ordn := ordn', cl := cl', nph := fun q hq => ?_, npr := fun q hq => ?_, npw := fun q h1 h2 h3 h4 => ?_ }
    · rw [List.nodup_append]
      refine ⟨nd3, ?_, fun a ha b hb e => ?_⟩
      · simp [rdDone]; exact List.Nodup.sublist List.filter_sublist (by simp)
      · subst e
        obtain ⟨rfl, _⟩ := (hmr a).mp hb
        rcases List.mem_append.mp ha with h1 | h1
        · simp at h1; exact h1.elim hq0o hne
        · exact hq0h ((hm a).mpr (.inr h1))
    · by_cases c : q = q0
      · subst c
        rw [hf0, hmr]
        constructor
        · rintro (h1 | h1)
          · exact absurd ((hm q).mpr (.inr h1)) hq0h
          · exact h1.2
        · intro h1; exact .inr ⟨rfl, h1⟩
      · rw [← frees q (by rw [hp]; exact fun e => c (Option.some.inj e).symm), hmr]
        exact ⟨fun h => h.resolve_right (fun e => c e.1), .inl⟩
    · have h1 : q ≠ p := fun e => hph (e ▸ hq)
      have h2 : q ≠ q0 := fun e => hq0h ((hm q0).mpr (.inr (e ▸ hq)))
      simp [npDone, h1, List.count_cons, Ne.symm h2]
      exact R.nph q ((hm q).mpr (.inr hq))
    · obtain ⟨rfl, h1⟩ := (hmr q).mp hq
      simp [npDone, hne, h1]
    · simp at h2
      have hqp : q ≠ p := h2.2
      have hqh : q ∉ hs := fun c => ((hm q).mp c).elim hqp h3
      have hw := R.npw q h1 h2.1 hqh (by simp)
      by_cases c : q = q0
      · subst c
        simp [npDone, hqp]
        omega
      · simp [npDone, hqp, List.count_cons, Ne.symm c]
        rw [kids_snoc, filter_ne_self (by rw [mem_kids]; rintro ⟨_, e, _⟩; rw [hp] at e; exact c (Option.some.inj e).symm)]
        exact hw
theorem RS.all (R : RS par n ord [] [] np) (hpar : ∀ p q, p < n → par p = some q → p < q ∧ q < n) : ∀ q, q < n → q ∈ ord := by
  intro q
  induction q using Nat.strongRecOn with
  | _ q ih =>
    intro hq
    refine Classical.byContradiction fun c => ?_
    have : Free par n ord q := ⟨hq, c, fun k hk e => ih k (hpar k q hk e).1 hk⟩
    have := (R.iff q).mpr this
    simp at this
end
section
open PySem PySem.W PyProof.Rows
section
variable {B : Heap} {L : Addr} {N : List (Str × Option Addr)} {l : List (Option Value)} {σ : Own} {φ : Frz} {s₀ s : Shared} {env : Env}
variable {prog : Program} {w : World} {A : Around} {E : Value → Shared → Prop}
noncomputable def compChk1 (scope : Scope) (x : Str) (Fv G : List Str) : Bool :=
  (scope.kind == .function) && scope.names.all (fun x => (x.2 != .local || scope.names.lookup x.1 == some .local) && (x.2 != .free || Fv.contains x.1)) &&
  ((scope.names.lookup x == some .cell) && !(x == ("__debug__" : Str))) && G.all (fun x => (scope.names.lookup x == some .globalImplicit) && !(x == ("__debug__" : Str))) &&
  Fv.all (fun x => (scope.names.lookup x == some .free) && !(x == ("__debug__" : Str)) && !(x == ("__classdict__" : Str)))
theorem compOk1_of {Fo Fv G Go : List (Str × Value)} {scope : Scope} {x : Str} (hc : compChk1 scope x (Fv.map (·.1)) (G.map (·.1)) = true) (eG : EnvG B env Go) (hG : ∀ p ∈ G, GlobIs B p.1 p.2)
    (hF : ∀ p ∈ Fv, (∃ k, k ≠ none ∧ GetV N l p.1 k p.2) ∨ p ∈ Fo) (cf : ∀ n cl, cellsFrom n scope.names cl = (x, n) :: cl) (pc : ∀ h, pushCells h scope.names = h.push { cls := .type "cell", data := .cell none }) : CompOk1 B env N l Fo scope x Fv G := by
  unfold compChk1 at hc
  simp only [Bool.and_eq_true] at hc
  obtain ⟨⟨⟨⟨h1, h2⟩, h4⟩, h5⟩, h6⟩ := hc
  have h2' := List.all_eq_true.mp h2
  have h5' := List.all_eq_true.mp h5
  have h6' := List.all_eq_true.mp h6
  refine { free := fun x hx => ?_, names := fun x hx e => ?_, cf := cf, pc := pc, kind := beq_iff_eq.mp h1, cell := ⟨beq_iff_eq.mp h4.1, by simpa using h4.2⟩, glob := fun p hp => ?_, frees := fun p hp => ?_, mg := eG.globals, mb := eG.builtins }
  · have := h2' _ hx
    simp at this
    obtain ⟨v, hv⟩ := this
    rcases hF _ hv with ⟨k, hk, g⟩ | g
    · exact .inl ⟨k, v, hk, g⟩
    · exact .inr ⟨v, g⟩
  · have := h2' _ hx
    simp at this
    rcases this.1 with c | c
    · exact absurd e c
    · exact c
  · have := h5' p.1 (List.mem_map.mpr ⟨p, hp, rfl⟩)
    simp at this
    exact ⟨this.1, by simpa using this.2, hG p hp⟩
  · have := h6' p.1 (List.mem_map.mpr ⟨p, hp, rfl⟩)
    simp at this
    exact ⟨this.1.1, by simpa using this.1.2, by simpa using this.2, hF p hp⟩
/-- list(range(n)) -/
theorem lrange_l {r : Addr} {n : Nat} {Q : Value → Shared → Prop} (R : A.handled = none) (S : St B L N l (upd σ r (IsRg 0 n 1)) φ s₀ s) (hr : σ r = none) (hn : n < 1000000)
    (hq : ∀ b vs s', σ b = none → Ints vs (zi (List.range n)) → St B L N l (upd σ b (IsL vs)) φ s₀ s' → Q (.ref b) s') : wpAny (model prog w) A (call (.type "list") [.ref r]) Q E s := by
  obtain ⟨_, ho, t, u, v, rfl⟩ := S.own r _ upd_self
  have hsmall : Builtin.Range.small 0 (n : Int) 1 = true := by
    have hz : fitsR (n : Int) := by unfold fitsR; omega
    unfold Builtin.Range.small
    rw [size_one, fits_long (x := 0) (by unfold fitsR; omega), fits_long hz, show Builtin.Range.rangeFitsLong 1 = true from by decide, if_pos (by decide)]
    have h1 : Builtin.Range.rangeFitsLong ((n : Int) + (1 - 1)) = true := by simpa using fits_long hz
    have h2 : Builtin.Range.rangeFitsLong (((n : Int) - 0).toNat : Nat) = true := by simpa using fits_long hz
    rw [h1, h2]; simp
  refine call_list_range R ho hsmall (n := n) (by rw [size_one]; simp) (by omega) fun h' tk acc' c' hk hS' hacc => ?_
  have S1 := S.forget (σ' := σ) fun a P q => upd_none hr q
  refine hq _ acc'.toList _ S1.fresh ⟨by simp [hacc.1], fun i k e => ?_⟩ (S1.made size_none hk ⟨_, hS', c', by simp⟩ tk)
  have hi : i < n := by have := (List.getElem?_eq_some_iff.mp e).1; simpa using this
  have e2 : k = (i : Int) := by simp [hi] at e; exact e.symm
  have hv : acc'[i]? = some (acc'[i]'(by rw [hacc.1]; exact hi)) := Array.getElem?_eq_getElem _
  obtain ⟨t, ht⟩ := hacc.2 i _ hv
  refine ⟨t, ?_⟩
  have e3 : (0 : Int) + (i : Int) * 1 = (i : Int) := by omega
  rw [Array.getElem?_toList, hv, ht, e2, e3]
theorem slice_upto (vs : List Value) (b : Nat) : (slicePick vs.toArray none (some (b : Int)) none).toList = vs.take b := by rw [slicePick_upto']
end
end
section
open PySem PySem.W PyProof.Rows
section
variable {B : Heap} {L : Addr} {N : List (Str × Option Addr)} {l : List (Option Value)} {σ : Own} {φ : Frz} {s₀ s : Shared}
variable {prog : Program} {w : World} {A : Around} {E : Value → Shared → Prop} {env : Env}
theorem comp_set_jT {τ : Type} (n : Nat) (vs : τ → List Value) (a : τ → Addr) (J : τ → Nat → List Value → Own → Prop) (xs : List Str) (Fv Fo G : List (Str × Value)) {elt iter : Expr} {elts : List Expr} {x1 : Nat} {tpos : Pos} {ifs : List Expr} {scope : Scope} {pos : Pos} {z : Str} {kz : Option Addr} {pz spos : Pos} {Q : Flow → Shared → Prop}
    (l' : Addr → List (Option Value))
    (S : St B L N l σ φ s₀ s) (e : EnvOk env L N) (eF : EnvF env φ Fo) (ok : CompOk B env N l Fo scope xs Fv G) (hh : A.handled = none)
    (hi : wpAny (model prog w) A (eval iter env) (fld fun xv s₁ => ∃ y σ, xv = .ref (a y) ∧ St B L N l σ φ s₀ s₁ ∧ J y 0 [] σ) E s)
    (hneed : ∀ y i ys σ, J y i ys σ → σ (a y) = some (IsL (vs y)) ∧ (vs y).length = n ∧ ∀ v ∈ vs y, ∃ t, v = .ref t) (hsz : n ≤ sizeLine) (hlen : ∀ y i ys σ, J y i ys σ → ys.length ≤ i)
    (turn : ∀ y i v ys σ cenv C φ' s, i < n → (vs y)[i]? = some v → J y i ys σ → EnvOk cenv C (xs.map (·, none)) → EnvF cenv φ' Fv → EnvG B cenv G → St B C (xs.map (·, none)) (xs.map fun _ => none) σ φ' s₀ s →
      wpAny (model prog w) A (assign (.Tuple elts x1 tpos) cenv v) (fun _ s₁ => wpAny (model prog w) A (forIn ifs true fun c r => if r = true then do let ok ← isTrue c cenv (eval c cenv); pure (ForInStep.yield ok) else pure (ForInStep.yield r))
        (fld fun ok s₂ => if ok = true then wpAny (model prog w) A (eval elt cenv) (fld fun u s₃ => ∃ l₃ σ₃, J y (i + 1) (ys ++ [u]) σ₃ ∧ St B C (xs.map (·, none)) l₃ σ₃ φ' s₀ s₃) Nev s₂
          else ∃ l₃ σ₃, J y (i + 1) ys σ₃ ∧ St B C (xs.map (·, none)) l₃ σ₃ φ' s₀ s₂) Nev s₁) Nev s)
    (hset : ∀ D, SetV N l z kz (some (.ref D)) (l' D))
    (fin : ∀ y D ys σ s, J y n ys σ → σ D = none → St B L N (l' D) (upd σ D (IsL ys)) φ s₀ s → Q .next s)
    (hsw : swapsWith (.ListComp elt [⟨.Tuple elts x1 tpos, iter, ifs, 0⟩] scope pos) (some (.Name z pz)) spos.line env = pure true)
    (hs : ∀ x, foldedSetIterable iter env x = pure x) :
    wpAny (model prog w) A (exec (.Assign [.Name z pz] (.ListComp elt [⟨.Tuple elts x1 tpos, iter, ifs, 0⟩] scope pos) spos) env) Q E s := by
  obtain ⟨cl, hc1, hc2⟩ := ok.closure e eF
  rw [exec_Assign_Name_used _ _ _ _ hsw]
  refine wpAny_bind (wpAny_standAt (wpAny_bind ?_))
  show wpAny _ A (do let _ ← comprehension (.ListComp elt [⟨.Tuple elts x1 tpos, iter, ifs, 0⟩] scope pos) scope env _ (newList []) false (eval iter env) (some (assign (.Name z pz) env))) _ _ s
  refine wpAny_bind (wpAny_mono (wpAny_comprehension_free (use := some (assign (.Name z pz) env)) (Q := fun _ s' => Q .next s') rfl hs hc1 ok.kind ok.names (wpAny_mono hi (fun xv s₁ h₁ => ?_) fun _ _ x => x))
    (fun _ s' hq => wpAny_pure (wpAny_pure hq)) fun _ _ x => x)
  obtain ⟨y, σ, rfl, S, j⟩ := h₁
  obtain ⟨ha, hl, href⟩ := hneed y _ _ _ j
  refine wpAny_pyIter_list (S.list ha) ?_
  have IT := itr_list (prog := prog) (w := w) hh s₁.heap.objs.size (a y) (vs y)
  rw [hl] at IT
  refine comp_coreT (RR := fun acc C => compPost (model prog w) A E (some (assign (.Name z pz) env)) (fun _ s' => Q .next s') acc C) n _ (needL (a y) (vs y)) (J y) xs Fv Fo G IT S.fresh ha
    (S.alloc (P := fun o => o.cls = .type "list_iterator" ∧ o.data = .fields #[.ref (a y), .int (0 : Nat) 0]) rfl ⟨rfl, rfl⟩ s₁.toks) j e eF ok.mg ok.mb hc2 ok.nocell ok.kind ok.nodup ok.loc ok.glob ok.frees (fun i ys σ h => (hneed y i ys σ h).1) hsz (hlen y) (turn y) ?_ ?_
  · intro D C ys σ s j hD hC hDC S
    refine wpAny_assign_Name (store_v e S (hset D) fun s' S' => ?_)
    obtain ⟨oC, hoC, nsC⟩ := S'.own C _ upd_self
    obtain ⟨m, hm⟩ := nsC.ns hoC
    refine ⟨m, hm, fun h' hs' => fin y D ys σ _ j hD ?_⟩
    refine S'.drop (t := s'.toks) upd_self (KeepBut.of hs') fun a P q => ?_
    have : a ≠ C := (by first | exact ne_sn q (((upd_ne (Ne.symm hDC))).trans hC) | exact ne_ns q (((upd_ne (Ne.symm hDC))).trans hC) | exact ne_sn (((upd_ne (Ne.symm hDC))).trans hC) q | exact ne_ns (((upd_ne (Ne.symm hDC))).trans hC) q)
    exact ⟨this, by rw [upd_ne this]; exact q⟩
  · intro i v o s Q E hi hv ho hat hQ
    obtain ⟨t, rfl⟩ := href v (List.mem_of_getElem? hv)
    exact wpAny_letOwnedTupleGo_listiter ⟨o, ho, hat⟩ hQ
end
end
section
open PySem PySem.W PyProof.Rows
noncomputable def gsEs (P : Params) : Array DictEntry := match (hd.heap_39 P).lookup mainGlobals with
  | some ⟨_, _, .dict es _, _⟩ => es
  | _ => #[]
theorem glb_chk (P : Params) : glb.all (fun p => (nsFind (gsEs P) p.1 == some p.2) || ((nsFind (gsEs P) p.1 == none) && (bootBuiltins p.1 == some p.2) && (p.1 != Str.ofString "__name__"))) = true := by rfl
theorem base_of {w : World} {mg mb : Str → Option Value} {h : Heap} {p : Program} {loose : List Str} {mean : ExcName → Option Value} (T : Top p loose mean mg mb h) (hi : importsNone p = true) (KX : (hd.heap_39 w.params).In h) : Base w h := by
  obtain ⟨mm, ⟨om, _, _, hom, _⟩, _⟩ := (T.seer hi).mods
  refine { X := KX, lim := T.nolimit, glob := fun q hq => ?_, sysm := ⟨om, hom⟩ }
  obtain ⟨o, es, ep, ho, hdd, hsk, hf⟩ := T.g
  obtain ⟨o', ho', es', ep', hd'⟩ : ∃ o', h.get? mainGlobals = some o' ∧ ∃ es ep, o'.data = .dict es ep ∧ es = gsEs w.params := ⟨_, KX mainGlobals _ rfl, _, _, rfl, rfl⟩
  rw [ho] at ho'; cases ho'
  have e : es = gsEs w.params := by
    obtain ⟨h1, h2⟩ := hd'
    rw [hdd] at h1; cases h1; exact h2
  have chk := List.all_eq_true.mp (glb_chk w.params) q hq
  have hm : mg q.1 = nsFind (gsEs w.params) q.1 := by rw [← e]; exact (hf q.1).symm
  refine ⟨mg, mb, T.g, T.b, ?_⟩
  rcases Bool.or_eq_true_iff.mp chk with c | c
  · exact .inl (hm.trans (beq_iff_eq.mp c))
  · obtain ⟨c1, c2⟩ := Bool.and_eq_true_iff.mp c
    obtain ⟨c1, c3⟩ := Bool.and_eq_true_iff.mp c1
    exact .inr ⟨hm.trans (beq_iff_eq.mp c1), (T.builtins q.1 (by simpa using c2)).trans (beq_iff_eq.mp c3)⟩
end
section
open PySem PySem.W PyProof.Rows
section
variable {w : World} {B : Heap} {A : Around} {L : Addr} {N : List (Str × Option Addr)} {l : List (Option Value)} {σ : Own} {φ : Frz} {s₀ s : Shared} {E : Value → Shared → Prop} {env : Env} {prog : Program}
theorem sum_l {a : Addr} {vs : List Value} {ns : List Int} {Q : Value → Shared → Prop} (R : A.handled = none) (S : St B L N l σ φ s₀ s) (h : σ a = some (IsL vs)) (hi : Ints vs ns)
    (hq : ∀ k t s', St B L N l σ φ s₀ s' → Q (.int k t) s') : wpAny (model prog w) A (call (.builtin "sum") [.ref a]) Q E s := by
  obtain ⟨xs, hx⟩ := hi.are.allInts.items
  exact sum_intListG R (hx ▸ S.list h) fun h' tk t' hk => hq _ _ _ (S.grow hk tk)
theorem assign_pair {x y : Str} {px py pos : Pos} {x1 : Nat} {t : Addr} {v u : Value} {Q : Unit → Shared → Prop} (R : A.handled = none) (S : St B L N l σ φ s₀ s) (h : σ t = some (IsTp [v, u]))
    (hq : ∀ s', St B L N l σ φ s₀ s' → wpAny (model prog w) A (assign (.Name x px) env v) (fun _ s2 => wpAny (model prog w) A (assign (.Name y py) env u) Q E s2) E s') :
    wpAny (model prog w) A (assign (.Tuple [.Name x px, .Name y py] x1 pos) env (.ref t)) Q E s := by
  obtain ⟨n, ho⟩ := S.isTp h
  refine wpAny_assign_Tuple (items := [v, u].toArray) R ⟨_, ho, rfl, n, rfl⟩ rfl rfl fun h' he => ?_
  have S' : St B L N l σ φ s₀ { s with heap := h' } := S.grow (fun b o e => he b o (Nat.ne_of_lt (Heap.lt_size e)) e) s.toks
  show wpAny _ A (assignInOrder [assign (.Name x px) env, assign (.Name y py) env] [v, u]) _ _ _
  exact wpAny_bind (wpAny_holding (wpAny_mono (hq _ S') (fun _ s2 h2 => wpAny_bind (wpAny_holding (wpAny_mono h2 (fun _ _ q => wpAny_pure q) fun _ _ x => x))) fun _ _ x => x))
/-- a slice of a list that stood there before -/
theorem cut_b {value slice : Expr} {a sl : Addr} {vs : List Value} {vl vu vk : Value} {lo hi st : Option Int} {Q : Value → Shared → Prop} (S : St B L N l (upd σ sl (IsSl vl vu vk)) φ s₀ s) (hsl : σ sl = none) (ha : B.IsList a vs.toArray) (pl : IsPart vl lo) (pu : IsPart vu hi) (pk : IsPart vk st) (h0 : st ≠ some 0)
    (hz : vs.length ≤ sizeLine) (hq : ∀ b s', σ b = none → St B L N l (upd σ b (IsL (slicePick vs.toArray lo hi st).toList)) φ s₀ s' → Q (.ref b) s')
    {ops : List Value} (hs : subscripted slice false (.ref a) (.ref sl) = operate ops (getItem (.ref a) (.ref sl))) :
    wpAny (model prog w) A (subscriptTail value slice (.ref a) (.ref sl)) Q E s := by
  have ha' : s.heap.IsList a vs.toArray := let ⟨o, e, r⟩ := ha; ⟨o, S.base a o e, r⟩
  obtain ⟨o, ho, hc, hd⟩ := S.own sl _ upd_self
  refine tail_any ha'.typeIs slot_list_getitem.lookup (wpAny_getItem_list_slice ha' ⟨o, ho, hc, hd⟩ pl pu pk h0 ?_ (by simpa using hz)) hs
  have S' := S.forget (σ' := σ) fun a P q => upd_none hsl q
  exact hq _ _ S'.fresh (S'.alloc (P := IsL (slicePick vs.toArray lo hi st).toList) rfl ⟨0, by simp⟩ s.toks)
/-- the law is called from outside -/
theorem code_top {f : Addr} {fo : Obj} {fd : FuncData} {body : List Stmt} {args : List Value} {binds : List (Str × Value)} {Rs : Result → Shared → Prop} (N' : List (Str × Bool)) (l' : List (Option Value)) (G : List (Str × Value))
    (hB : Base w s.heap) (hG : ∀ p ∈ G, GlobIs s.heap p.1 p.2) (ho : s.heap.get? f = some fo) (hdata : fo.data = .func fd) (hcd : s.heap.CodeRec fd.code fd.qualname) (hbody : fd.body = .stmts body)
    (hbind : bindArgs fd ⟨args, []⟩ = pure binds) (hclo : fd.closure = []) (hglo : fd.globals = mainGlobals) (hblt : fd.builtins = builtinsNs)
    (hkind : ∀ n, ∀ x ∈ binds, fd.scope.names.lookup x.1 = some .local ∨ (fd.scope.names.lookup x.1 = some .cell ∧ ((cellsFrom n fd.scope.names []).lookup x.1).isSome = true))
    (hcs : ∀ n, ∀ x ∈ N', x.2 = true → ((cellsFrom n fd.scope.names []).lookup x.1).isSome = true)
    (nd : (N'.map (·.1)).Nodup) (hchk : envChk fd.scope.names N' (G.map (·.1)) = true)
    (hv : Init (bindL (fun x => fd.scope.names.lookup x) binds fun _ => none) (bindC (fun x => fd.scope.names.lookup x) binds fun _ => none) N' l')
    (h : ∀ env A' L' (κ : Str → Option Addr) s', (∀ x ∈ N', x.2 = true → κ x.1 ≠ none) → EnvOk env L' (N'.map fun x => (x.1, cond x.2 (κ x.1) none)) → EnvG s.heap env G → Deeper callerA A' → Fm A' (fun _ => none) s.heap env L' → St s.heap L' (N'.map fun x => (x.1, cond x.2 (κ x.1) none)) l' (fun _ => none) (fun _ => none) s s' →
      wpAny (model prog w) A' (execs body env) (fun fl s'' => Rs (.ok (.ret (retOf fl))) s'') Nev s')
    (hco : fd.scope.isCoroutine = false := by rfl) (hgen : fd.scope.isGenerator = false := by rfl) (hk : fd.scope.kind = .function := by rfl) :
    codeAny (model prog w) callerA (.call (.ref f) ⟨args, []⟩) Rs s := by
  refine (codeAny_call_cells (by decide +kernel) ho hdata hB.lim hcd hbody hbind hclo (hkind _) (fun s₁ X => ?_) hco hgen hk)
  obtain ⟨h₁, tk, rfl⟩ := X.toInCall.same
  have hk₁ := X.toInCall.keep
  have cadd : ∀ x c, (x, some c) ∈ cellsOf (callEnvC fd s.heap.objs.size f).cells N' → s.heap.objs.size < c := fun x c hm => by
    obtain ⟨y, hy, e⟩ := List.mem_map.mp hm
    cases hb : y.2 with
    | true =>
      rw [hb] at e
      dsimp only [cond] at e
      have e2 := congrArg Prod.snd e
      simp only at e2
      exact X.above y.1 c (mem_of_lookup e2)
    | false => rw [hb] at e; cases e
  have big : ∀ c, s.heap.objs.size < c → s.heap.get? c = none := fun c hc => by
    cases q : s.heap.get? c with
    | none => rfl
    | some o => exact absurd (Heap.lt_size q) (Nat.not_lt.mpr (Nat.le_of_lt hc))
  have hv' := hv.vars (cs := (callEnvC fd s.heap.objs.size f).cells) (h := h₁) X.cell (hcs _)
  have S' : St s.heap s.heap.objs.size (cellsOf (callEnvC fd s.heap.objs.size f).cells N') l' (fun _ => none) (fun _ => none) s { s with heap := h₁, toks := tk } :=
    { base := hk₁, above := Nat.le_refl _, vars := ⟨_, X.toInCall.ns, hv'⟩, offσ := rfl, offφ := rfl,
      cells := fun x c hm => ⟨fun e => by have := cadd x c hm; rw [e] at this; exact Nat.lt_irrefl _ this, big c (cadd x c hm), rfl, rfl⟩,
      own := fun _ _ e => (nomatch e), ownB := fun _ e => absurd rfl e, frm := fun _ _ e => (nomatch e), apart := fun _ _ => rfl, gens := rfl, drawn := rfl, os := rfl }
  have e1 := envOk_of (env := callEnvC fd s.heap.objs.size f) (L := s.heap.objs.size) (names := fd.scope.names) (N := N') (G := G.map (·.1)) rfl rfl hk nd hchk (hcs _) X.apart
  refine wpAny_mono (h _ _ _ (fun x => (callEnvC fd s.heap.objs.size f).cells.lookup x) _ (fun x hx hb => fun e => by have := hcs (s.heap.objs.size + 1) x hx hb; rw [show (cellsFrom (s.heap.objs.size + 1) fd.scope.names []).lookup x.1 = none from e] at this; cases this) e1 (envG_of (names := fd.scope.names) rfl hk hglo hblt hG hchk) deeper_of ?_ S') (fun fl s'' hh => ?_) fun _ _ x => x.elim
  · exact ⟨[], rfl, by show fd.scope.kind ≠ _; rw [hk]; decide, rfl, trivial⟩
  · cases fl <;> exact hh
end
end
section
open PySem PySem.W PyProof.Rows
/-- from start along ties, through points not behind start -/
inductive Rch (T : Nat → Nat → Bool) (n start : Nat) : Nat → Prop
  | refl : Rch T n start start
  | step {p j : Nat} : Rch T n start p → p ≤ start → j < n → T p j = true → Rch T n start j
section
variable {w : World} {B : Heap} {A : Around} {L : Addr} {N : List (Str × Option Addr)} {l : List (Option Value)} {σ : Own} {φ : Frz} {s₀ s : Shared}
inductive MeJ (σ : Own) (ta sa : Addr) (n start : Nat) (t1 : Tok) (T : Nat → Nat → Bool) (m : Nat) (l' : List (Option Value)) (σ' : Own) : Prop
  | mk (ps : List Nat) (vs : List Value) (lk : Nat) (tl : Tok) (l5 : Option Value) (h1 : m = n - lk) (h2 : lk ≤ ps.length) (h3 : l' = [some (.ref ta), some (.int start t1), some (.ref sa), some (.int lk tl), l5]) (h4 : Ext σ σ') (h5 : σ' sa = some (IsL vs)) (h6 : Ints vs (zi ps)) (h7 : ps.Nodup) (h8 : (∀ p ∈ ps, p < n)) (h9 : start ∈ ps) (h10 : (∀ p ∈ ps, Rch T n start p)) (h11 : (∀ i p, i < lk → ps[i]? = some p → p ≤ start → ∀ j, j < n → T p j = true → j ∈ ps)) : MeJ σ ta sa n start t1 T m l' σ'
inductive MeK (σ : Own) (ta sa : Addr) (n start : Nat) (t1 : Tok) (T : Nat → Nat → Bool) (l' : List (Option Value)) (σ' : Own) : Prop
  | mk (ps : List Nat) (vs : List Value) (l4 l5 : Option Value) (h1 : l' = [some (.ref ta), some (.int start t1), some (.ref sa), l4, l5]) (h2 : Ext σ σ') (h3 : σ' sa = some (IsL vs)) (h4 : Ints vs (zi ps)) (h5 : ps.Nodup) (h6 : (∀ p ∈ ps, p < n)) (h7 : start ∈ ps) (h8 : (∀ p ∈ ps, Rch T n start p)) (h9 : (∀ p ∈ ps, p ≤ start → ∀ j, j < n → T p j = true → j ∈ ps)) : MeK σ ta sa n start t1 T l' σ'
theorem met_spec (hB : Base w B) (R : Rm A 1) (S : St B L N l σ φ s₀ s)
  (ta : Addr) (rows : List Addr) (n start : Nat) (T : Nat → Nat → Bool) (t1 : Tok) (hM : Mat σ ta rows n T) (hst : start < n) (hn2 : n < 1000) (Q : Value → Shared → Prop) (E)
  (k : ∀ (σ' : Own) (ra : Addr) (vs : List Value) (ps seen : List Nat) (s' : Shared), Ext σ σ' → σ ra = none → σ' ra = some (IsL vs) → Ints vs (zi ps) → start ∈ seen → (∀ p ∈ seen, Rch T n start p) → (∀ p ∈ seen, p ≤ start → ∀ j, j < n → T p j = true → j ∈ seen) →
    ps = ((List.range n).filter fun j => decide (start < j) && decide (j ∈ seen)) → St B L N l σ' φ s₀ s' → Q (.ref ra) s') :
  wpAny (model PR w) A (call (.ref 186) [.ref ta, .int start t1]) Q E s := by
  refine call_st [(nm "tied", true), (nm "start", false), (nm "seen", true), (nm "looked", false), (nm "point", true)] [some (.ref ta), some (.int start t1), none, none, none] [(nm "len", .builtin "len"), (nm "range", .type "range")]
    (fun v σ' => ∀ s, St B L N l σ' φ s₀ s → Q v s)
    S (by have := R.depth; omega) hB.lim (hB.globs rfl) (hB.X _ _ rfl) rfl (codeRec_of hB.X rfl) rfl rfl rfl rfl rfl (cells_mix rfl) (some_cells rfl) (by decide) rfl (by walk_at "init") ?_ ?_
  · intro env A' L' κ φ' s' hκ e eG dA S'
    have R' := R.deeper dA
    dsimp only [List.map] at S' e ⊢
    dsimp only [cond] at S' e ⊢
    have hκ1 : κ (nm "tied") ≠ none := hκ (nm "tied", true) (by simp) rfl
    have hκ2 : κ (nm "seen") ≠ none := hκ (nm "seen", true) (by simp) rfl
    have hκ3 : κ (nm "point") ≠ none := hκ (nm "point", true) (by simp) rfl
    walk_at "m"
    refine newList_l S' (by simp [sizeLine_eq]) fun sa s hsa S => ?_
    walk_at "m"
    refine while_q (MeJ σ ta sa n start t1 T)
      (MeK σ ta sa n start t1 T)
      n S ⟨[start], _, 0, _, none, by simp, by simp, rfl, Ext.rfl.upd hsa, upd_self, Ints.nil.snoc _ _, by simp, by simpa using hst, by simp, by simpa using Rch.refl, fun i p h => absurd h (Nat.not_lt_zero _)⟩ ?_ ?_
    · rintro m l' σ' s ⟨ps, vs, lk, tl, l5, rfl, hlk, rfl, hext, hsv, hint, hnd, hlt, hsin, hrch, hcl⟩ S
      have hvl : vs.length = ps.length := by rw [hint.1]; simp
      have hpl := nodup_lt hnd hlt
      walk_at "m"
      refine len_l S hsv (by omega) fun t s S => ?_
      walk_at "m"
      by_cases hc : lk < ps.length
      · refine ite_t (by simp; omega) ?_
        walk_at "m"
        have hpk := List.getElem?_eq_getElem hc
        obtain ⟨tp, htp⟩ := hint.get (i := lk) (k := (ps[lk] : Int)) (by simp [hc])
        refine item_n S hsv (by (clear hlk hst; omega)) htp ?_
        walk_at "m"
        have hplt := hlt _ (List.getElem_mem hc)
        generalize hpp : ps[lk] = p at *
        refine wpAny_If ?_
        walk_at "m"
        by_cases hps : p ≤ start
        · refine ite_t (by simp; (clear hpp hvl; omega)) ?_
          walk_at "m"
          refine method_l S hsv PySem.F.slot_list_extend PySem.F.type_list_extend ?_
          walk_at "m"
          have hM' := hM.ext hext
          refine comp_j n (fun i v => ∃ t : Tok, v = .int (i : Nat) t) needN (fun i ys σ'' => σ'' = σ' ∧ Ints ys (zi ((List.range i).filter fun j => T p j && !decide (j ∈ ps)))) [nm "j"] [(nm "point", .int p tp), (nm "seen", .ref sa), (nm "tied", .ref ta)] [] []
            S e (envF_nil e) (compOk_of rfl eG (fun _ h => nomatch h) ?_) ?_ (fun _ _ _ _ => trivial) (by rw [sizeLine_eq]; omega) ?_ ?_ ?_ (fun _ _ => rfl) (by with_unfolding_all (intro _; rfl))
          · intro q hq
            simp at hq
            rcases hq with rfl | rfl | rfl
            · exact .inl ⟨_, hκ3, by walk_at "gv"⟩
            · exact .inl ⟨_, hκ2, by walk_at "gv"⟩
            · exact .inl ⟨_, hκ1, by walk_at "gv"⟩
          · walk_at "m"
            refine len_l S hM'.top (by simp [hM.len]; omega) fun t s S => ?_
            walk_at "m"
            rw [List.length_map, hM.len]
            refine range_1 S fun r s hr S => ?_
            walk_at "m"
            exact iter_n R'.handled S hr (by omega) fun it s rd => ⟨σ', rd, rfl, by simpa using Ints.nil⟩
          · rintro i ys σ'' ⟨_, h⟩
            rw [h.1]; simp
            exact Nat.le_trans (List.length_filter_le _ _) (by simp)
          · rintro i v ys σ'' cenv C φ'' s hi ⟨tj, rfl⟩ ⟨rfl, hys⟩ e' eF' eG' S
            dsimp only [List.map] at S e' ⊢
            walk_at "m"
            obtain ⟨rp, hrp⟩ : ∃ r, rows[p]? = some r := ⟨rows[p]'(by rw [hM.len]; exact hplt), List.getElem?_eq_getElem _⟩
            refine item_n S hM'.top (by simp [hM.len]; omega) (by rw [List.getElem?_map, hrp]; rfl) ?_
            walk_at "m"
            refine item_n S (hM'.row p rp hrp) (by rw [rowV_length]; omega) (rowV_get hi) ?_
            walk_at "m"
            have ef : (List.range (i + 1)).filter (fun j => T p j && !decide (j ∈ ps)) = (List.range i).filter (fun j => T p j && !decide (j ∈ ps)) ++ (if (T p i && !decide (i ∈ ps)) = true then [i] else []) := by
              rw [List.range_succ, List.filter_append]; simp [List.filter_cons]
            cases hT : T p i with
            | false =>
              walk_at "m"
              exact ⟨_, _, ⟨rfl, by rw [ef]; simpa [hT] using hys⟩, S⟩
            | true =>
              walk_at "m"
              refine notin_i S hsv hint ?_
              walk_at "m"
              by_cases hin : i ∈ ps
              · have : ((i : Int) ∈ zi ps) := mem_zi.mpr hin
                refine ite_f (by rw [decide_eq_true this]; exact Bool.false_ne_true) ?_
                walk_at "m"
                exact ⟨_, _, ⟨rfl, by rw [ef]; simpa [hT, hin] using hys⟩, S⟩
              · have : ¬ ((i : Int) ∈ zi ps) := fun h => hin (mem_zi.mp h)
                refine ite_t (by rw [decide_eq_false this]; rfl) ?_
                walk_at "m"
                refine ⟨_, _, ⟨rfl, ?_⟩, S⟩
                rw [ef]
                simp only [hT, hin, decide_false, Bool.not_false, Bool.and_true, if_true, zi, List.map_append, List.map_cons, List.map_nil]
                exact hys.snoc _ _
          · rintro D ys σ'' s ⟨rfl, hys⟩ hD S
            walk_at "m"
            have hsD : sa ≠ D := (by first | exact ne_sn hsv hD | exact ne_ns hsv hD | exact ne_sn hD hsv | exact ne_ns hD hsv)
            have hjl : ys.length ≤ n := by rw [hys.1]; simp; exact Nat.le_trans (List.length_filter_le _ _) (by simp)
            refine extend_l S (by rw [upd_ne hsD]; exact hsv) upd_self (by rw [sizeLine_eq]; (clear hps hpp hlk hst; omega)) fun s S => ?_
            refine ⟨rfl, ?_⟩
            walk_at "m"
            have hzz : zi ps ++ zi ((List.range n).filter fun j => T p j && !decide (j ∈ ps)) = zi (ps ++ (List.range n).filter fun j => T p j && !decide (j ∈ ps)) := by simp [zi]
            refine ⟨n - (lk + 1), _, _, by (clear hps hpp hlk hn2 hst; omega), ⟨ps ++ ((List.range n).filter fun j => T p j && !decide (j ∈ ps)), vs ++ ys, lk + 1, _, _, rfl, by simp; (clear hvl hjl hps hplt hpp hpl hn2 hst; omega), rfl, ?_, upd_self, hzz ▸ hint.append hys, ?_, ?_, by simp [hsin], ?_, ?_⟩, S⟩
            · exact (hext.upd (hext.none hD)).upd hsa
            · refine List.nodup_append.mpr ⟨hnd, List.Pairwise.filter _ List.nodup_range, fun x hx y hy => ?_⟩
              intro c; subst c
              have := (List.mem_filter.mp hy).2
              simp [hx] at this
            · intro q hq
              rcases List.mem_append.mp hq with h | h
              · exact hlt q h
              · exact List.mem_range.mp (List.mem_filter.mp h).1
            · intro q hq
              rcases List.mem_append.mp hq with h | h
              · exact hrch q h
              · obtain ⟨h1, h2⟩ := List.mem_filter.mp h
                simp at h2
                exact .step (hrch p (hpp ▸ List.getElem_mem hc)) hps (List.mem_range.mp h1) h2.1
            · intro i q hi hq hle j hj hT
              by_cases hil : i < lk
              · rw [List.getElem?_append_left (by (clear hvl hj hle hjl hps hplt hpp hpl hn2 hst; omega))] at hq
                exact List.mem_append_left _ (hcl i q hil hq hle j hj hT)
              · have : i = lk := by (clear hle hjl hps hplt hpp hpl hvl hn2 hst; omega)
                subst this
                rw [List.getElem?_append_left hc, hpk] at hq; cases hq
                by_cases hjp : j ∈ ps
                · exact List.mem_append_left _ hjp
                · exact List.mem_append_right _ (List.mem_filter.mpr ⟨List.mem_range.mpr hj, by simp [hT, hjp]⟩)
        · refine ite_f (by simp; (clear hplt hpp hpl hvl hn2; omega)) ?_
          walk_at "m"
          refine ⟨n - (lk + 1), _, _, by (clear hpp hlk hn2 hst; omega), ⟨ps, vs, lk + 1, _, _, rfl, by (clear hplt hpp hpl hlk hn2 hst; omega), rfl, hext, hsv, hint, hnd, hlt, hsin, hrch, fun i p' hi hp' hle => ?_⟩, S⟩
          by_cases hil : i < lk
          · exact hcl i p' hil hp' hle
          · have : i = lk := by (clear hps hplt hpp hpl hvl hn2 hst; omega)
            subst this
            rw [hpk] at hp'; cases hp'; exact absurd hle hps
      · refine ite_f (by simp; (clear hlk hn2 hst; omega)) ?_
        refine ⟨_, _, ⟨ps, vs, _, _, rfl, hext, hsv, hint, hnd, hlt, hsin, hrch, fun p hp hle j hj hT => ?_⟩, S⟩
        obtain ⟨i, hi⟩ := List.getElem?_of_mem hp
        exact hcl i p (by have := (List.getElem?_eq_some_iff.mp hi).1; (clear hlk hvl hj hle hpl hn2 hst; omega)) hi hle j hj hT
    · rintro l' σ' s ⟨ps, vs, l4, l5, rfl, hext, hsv, hint, hnd, hlt, hsin, hrch, hcl⟩ S
      walk_at "m"
      have hM' := hM.ext hext
      refine comp_j (n - (start + 1)) (fun i v => ∃ t : Tok, v = .int ((start + 1 + i : Nat) : Int) t) needN (fun i ys σ'' => σ'' = σ' ∧ Ints ys (zi ((List.range (start + 1 + i)).filter fun j => decide (start < j) && decide (j ∈ ps))) ∧ ys.length ≤ i) [nm "j"] [(nm "seen", .ref sa)] [] []
        S e (envF_nil e) (compOk_of rfl eG (fun _ h => nomatch h) ?_) ?_ (fun _ _ _ _ => trivial) (by rw [sizeLine_eq]; omega) (fun i ys σ'' h => h.2.2) ?_ ?_ (fun _ _ => rfl) (by with_unfolding_all (intro _; rfl))
      · intro q hq
        simp at hq
        subst hq
        exact .inl ⟨_, hκ2, by walk_at "gv"⟩
      · walk_at "m"
        refine len_l S hM'.top (by simp [hM.len]; omega) fun t s S => ?_
        walk_at "m"
        rw [List.length_map, hM.len]
        refine range_2 (a := ((start + 1 : Nat) : Int)) S fun r s hr S => ?_
        walk_at "m"
        refine iter_ab R'.handled S hr (by omega) (by omega) fun it s rd => ⟨σ', rd, rfl, ?_, by simp⟩
        have : (List.range (start + 1 + 0)).filter (fun j => decide (start < j) && decide (j ∈ ps)) = [] := by
          rw [List.filter_eq_nil_iff]
          intro j hj
          have := List.mem_range.mp hj
          simp; omega
        rw [this]
        exact Ints.nil
      · rintro i v ys σ'' cenv C φ'' s hi ⟨tj, rfl⟩ ⟨rfl, hys, hyl⟩ e' eF' eG' S
        dsimp only [List.map] at S e' ⊢
        walk_at "m"
        refine in_i S hsv hint ?_
        walk_at "m"
        have ef : (List.range (start + 1 + (i + 1))).filter (fun j => decide (start < j) && decide (j ∈ ps)) = (List.range (start + 1 + i)).filter (fun j => decide (start < j) && decide (j ∈ ps)) ++ (if (decide (start + 1 + i ∈ ps)) = true then [start + 1 + i] else []) := by
          rw [← Nat.add_assoc, List.range_succ, List.filter_append]
          have : start < start + 1 + i := by omega
          simp [List.filter_cons, this]
        by_cases hin : start + 1 + i ∈ ps
        · have : (((start + 1 + i : Nat) : Int) ∈ zi ps) := mem_zi.mpr hin
          refine ite_t (decide_eq_true this) ?_
          walk_at "m"
          refine ⟨_, _, ⟨rfl, ?_, by simp; (clear hi hn2 hst; omega)⟩, S⟩
          rw [ef]
          simp only [hin, decide_true, if_true, zi, List.map_append, List.map_cons, List.map_nil]
          exact hys.snoc _ _
        · have : ¬ (((start + 1 + i : Nat) : Int) ∈ zi ps) := fun h => hin (mem_zi.mp h)
          refine ite_f (by rw [decide_eq_true_eq]; exact this) ?_
          refine ⟨_, _, ⟨rfl, ?_, by (clear hi hn2 hst; omega)⟩, S⟩
          rw [ef]
          simpa [hin] using hys
      · rintro D ys σ'' s ⟨rfl, hys, _⟩ hD S
        walk_at "m"
        refine ⟨_, _, S, fun s S => k _ _ _ _ _ s (hext.upd (hext.none hD)) (hext.none hD) upd_self hys hsin hrch hcl ?_ S⟩
        rw [show start + 1 + (n - (start + 1)) = n by omega]
  · intro v σ' s'' h S''; exact h s'' S''
end
end
section
/-- a way from x to y, inner points below m -/
def Wy (T : Nat → Nat → Bool) : Nat → Nat → Nat → Prop
  | 0, x, y => T x y = true
  | m + 1, x, y => Wy T m x y ∨ (Wy T m x m ∧ Wy T m m y)
section
variable {T : Nat → Nat → Bool} {n : Nat}
theorem Wy.mono {m m' x y : Nat} (h : m ≤ m') (w : Wy T m x y) : Wy T m' x y := by
  induction h with
  | refl => exact w
  | step _ ih => exact .inl ih
theorem Wy.sym (hs : ∀ i j, T i j = T j i) : ∀ {m x y : Nat}, Wy T m x y → Wy T m y x
  | 0, x, y, h => by show T y x = true; rw [hs]; exact h
  | m + 1, x, y, .inl h => .inl (Wy.sym hs h)
  | m + 1, x, y, .inr ⟨h1, h2⟩ => .inr ⟨Wy.sym hs h2, Wy.sym hs h1⟩
theorem Wy.trans {p : Nat} : ∀ {m x y : Nat}, p < m → Wy T m x p → Wy T m p y → Wy T m x y
  | 0, x, y, h, _, _ => absurd h (Nat.not_lt_zero _)
  | m + 1, x, y, h, h1, h2 => by
    by_cases e : p = m
    · subst e
      have a1 : Wy T p x p := h1.elim id (·.1)
      have a2 : Wy T p p y := h2.elim id (·.2)
      exact .inr ⟨a1, a2⟩
    · have hp : p < m := by omega
      rcases h1 with h1 | ⟨h1, h1'⟩ <;> rcases h2 with h2 | ⟨h2, h2'⟩
      · exact .inl (Wy.trans hp h1 h2)
      · exact .inr ⟨Wy.trans hp h1 h2, h2'⟩
      · exact .inr ⟨h1, Wy.trans hp h1' h2⟩
      · exact .inr ⟨h1, h2'⟩
theorem Wy.rch {k : Nat} : ∀ {m x y : Nat}, m ≤ k → k < n → Rch T n k x → x ≤ k → y < n → Wy T m x y → Rch T n k y
  | 0, x, y, _, _, r, hx, hy, h => .step r hx hy h
  | m + 1, x, y, hm, hk, r, hx, hy, .inl h => Wy.rch (by omega) hk r hx hy h
  | m + 1, x, y, hm, hk, r, hx, hy, .inr ⟨h1, h2⟩ => Wy.rch (by omega) hk (Wy.rch (by omega) hk r hx (by omega) h1) (by omega) hy h2
theorem Rch.wy {k j : Nat} (h : Rch T n k j) : j = k ∨ Wy T k k j := by
  induction h with
  | refl => exact .inl rfl
  | @step p j _ hp hj ht ih =>
    have h0 : Wy T k p j := Wy.mono (m := 0) (Nat.zero_le _) ht
    rcases ih with e | ih
    · subst e; exact .inr h0
    · by_cases e : p = k
      · subst e; exact .inr h0
      · exact .inr (Wy.trans (p := p) (by omega) ih h0)
theorem rch_iff {k j : Nat} (hk : k < n) (hj : k < j) (hjn : j < n) : Rch T n k j ↔ Wy T k k j :=
  ⟨fun h => h.wy.resolve_left (by omega), fun h => h.rch (Nat.le_refl _) hk .refl (Nat.le_refl _) hjn⟩
variable {col : Nat → List Nat}
theorem IsCol.up (hc : ∀ k, k < n → IsCol T n col k) {i p : Nat} {rest : List Nat} (hi : i < n) (e : col i = p :: rest) {j : Nat} (hj : j ∈ rest) : j ∈ col p := by
  have h := (hc i hi).rng p (by rw [e]; exact .head _)
  exact ((hc p h.2).mem j).mpr (.inr ⟨i, h.1, rest, e, hj⟩)
theorem IsCol.fill (hc : ∀ k, k < n → IsCol T n col k) : ∀ (m i : Nat), n - i = m → i < n → ∀ j l, j ∈ col i → l ∈ col i → j < l → l ∈ col j := by
  intro m
  induction m using Nat.strongRecOn with
  | _ m ih =>
    intro i hm hi j l hj hl hjl
    cases e : col i with
    | nil => rw [e] at hj; cases hj
    | cons p rest =>
      have hp := (hc i hi).rng p (by rw [e]; exact .head _)
      have hinc := (hc i hi).inc
      rw [e] at hinc hj hl
      have hmin := (List.pairwise_cons.mp hinc).1
      have hl' : l ∈ rest := by
        rcases List.mem_cons.mp hl with c | c
        · subst c
          rcases List.mem_cons.mp hj with c | c
          · omega
          · have := hmin j c; omega
        · exact c
      rcases List.mem_cons.mp hj with c | c
      · subst c; exact IsCol.up hc hi e hl'
      · exact ih (n - p) (by (clear hi hjl; omega)) p rfl hp.2 j l (IsCol.up hc hi e c) (IsCol.up hc hi e hl') hjl
theorem IsCol.of_wy (hs : ∀ i j, T i j = T j i) (hc : ∀ k, k < n → IsCol T n col k) : ∀ (m x y : Nat), m ≤ x → x < y → y < n → Wy T m x y → y ∈ col x := by
  intro m
  induction m with
  | zero => intro x y _ hxy hy h; exact ((hc x (by omega)).mem y).mpr (.inl ⟨hxy, hy, h⟩)
  | succ m ih =>
    intro x y hm hxy hy h
    rcases h with h | ⟨h1, h2⟩
    · exact ih x y (by omega) hxy hy h
    · exact IsCol.fill hc _ m rfl (by omega) x y (ih m x (Nat.le_refl _) (by omega) (by omega) (h1.sym hs)) (ih m y (Nat.le_refl _) (by omega) hy h2) hxy
theorem IsCol.to_wy (hs : ∀ i j, T i j = T j i) (hc : ∀ k, k < n → IsCol T n col k) : ∀ (x y : Nat), x < n → y ∈ col x → Wy T x x y := by
  intro x
  induction x using Nat.strongRecOn with
  | _ x ih =>
    intro y hx hy
    rcases ((hc x hx).mem y).mp hy with ⟨_, _, h⟩ | ⟨i, hi, rest, e, hj⟩
    · exact Wy.mono (m := 0) (Nat.zero_le _) h
    · have h1 := ih i hi x (by omega) (by rw [e]; exact .head _)
      have h2 := ih i hi y (by omega) (by rw [e]; exact .tail _ hj)
      exact Wy.trans (p := i) hi ((h1.sym hs).mono (Nat.le_of_lt hi)) (h2.mono (Nat.le_of_lt hi))
/-- Rose, Tarjan and Lueker -/
theorem IsCol.iff_rch (hs : ∀ i j, T i j = T j i) (hc : ∀ k, k < n → IsCol T n col k) {k j : Nat} (hk : k < n) : j ∈ col k ↔ k < j ∧ j < n ∧ Rch T n k j := by
  constructor
  · intro h
    obtain ⟨h1, h2⟩ := (hc k hk).rng j h
    exact ⟨h1, h2, (rch_iff hk h1 h2).mpr (IsCol.to_wy hs hc k j hk h)⟩
  · rintro ⟨h1, h2, h3⟩
    exact IsCol.of_wy hs hc k k j (Nat.le_refl _) h1 h2 ((rch_iff hk h1 h2).mp h3)
end
/-- two sorted lists of the same members -/
theorem sorted_eq {α : Type} {R : α → α → Prop} (irr : ∀ a, ¬ R a a) (asy : ∀ a b, R a b → R b a → False) : ∀ {l l' : List α}, l.Pairwise R → l'.Pairwise R → (∀ a, a ∈ l ↔ a ∈ l') → l = l'
  | [], [], _, _, _ => rfl
  | [], b :: r, _, _, h => absurd ((h b).mpr (.head _)) (by simp)
  | a :: l, [], _, _, h => absurd ((h a).mp (.head _)) (by simp)
  | a :: l, b :: r, h1, h2, h => by
    obtain ⟨p1, p2⟩ := List.pairwise_cons.mp h1
    obtain ⟨q1, q2⟩ := List.pairwise_cons.mp h2
    have e : a = b := by
      rcases List.mem_cons.mp ((h a).mp (.head _)) with c | c
      · exact c
      · rcases List.mem_cons.mp ((h b).mpr (.head _)) with d | d
        · exact d.symm
        · exact (asy a b (p1 b d) (q1 a c)).elim
    subst e
    rw [sorted_eq irr asy p2 q2 fun x => ?_]
    constructor
    · intro hx
      rcases List.mem_cons.mp ((h x).mp (.tail _ hx)) with c | c
      · subst c; exact absurd (p1 x hx) (irr x)
      · exact c
    · intro hx
      rcases List.mem_cons.mp ((h x).mpr (.tail _ hx)) with c | c
      · subst c; exact absurd (q1 x hx) (irr x)
      · exact c
/-! Liu -/
section
variable {T : Nat → Nat → Bool} {n : Nat} {col col' : Nat → List Nat} {o pos : Nat → Nat}
theorem IsCol.later (hc : ∀ k, k < n → IsCol T n col k) (htop : ∀ p q rest, p < n → col p = q :: rest → pos p < pos q) : ∀ (m p : Nat), n - p = m → p < n → ∀ q, q ∈ col p → pos p < pos q := by
  intro m
  induction m using Nat.strongRecOn with
  | _ m ih =>
    intro p hm hp q hq
    cases e : col p with
    | nil => rw [e] at hq; cases hq
    | cons r rest =>
      have h1 := htop p r rest hp e
      have hr := (hc p hp).rng r (by rw [e]; exact .head _)
      rw [e] at hq
      rcases List.mem_cons.mp hq with c | c
      · subst c; exact h1
      · have := ih (n - r) (by (clear hp h1; omega)) r rfl hr.2 q (IsCol.up hc hp e c)
        (clear hr hp hm; omega)
theorem IsCol.liu (hs : ∀ i j, T i j = T j i) (hc : ∀ k, k < n → IsCol T n col k) (hc' : ∀ k, k < n → IsCol (fun i j => T (o i) (o j)) n col' k)
    (htop : ∀ p q rest, p < n → col p = q :: rest → pos p < pos q) (ho : ∀ i, i < n → o i < n ∧ pos (o i) = i) (hp : ∀ p, p < n → pos p < n ∧ o (pos p) = p) : ∀ k, k < n → (col' k).map o = col (o k) := by
  have L2 : ∀ p, p < n → ∀ q, q ∈ col p → pos p < pos q := fun p h => IsCol.later hc htop _ p rfl h
  intro k
  induction k using Nat.strongRecOn with
  | _ k ih =>
    intro hk
    obtain ⟨hok, hpk⟩ := ho k hk
    refine sorted_eq (R := fun a b => pos a < pos b) (fun a => Nat.lt_irrefl _) (fun a b h1 h2 => by omega) ?_ ?_ fun q => ?_
    · rw [List.pairwise_map]
      refine (hc' k hk).inc.imp_of_mem fun {a b} ha hb h => ?_
      rw [(ho a ((hc' k hk).rng a ha).2).2, (ho b ((hc' k hk).rng b hb).2).2]; exact h
    · refine (hc (o k) hok).inc.imp_of_mem fun {a b} ha hb h => ?_
      exact L2 a ((hc (o k) hok).rng a ha).2 b (IsCol.fill hc _ (o k) rfl hok a b ha hb h)
    · constructor
      · intro hq
        obtain ⟨j, hj, rfl⟩ := List.mem_map.mp hq
        have hjr := (hc' k hk).rng j hj
        obtain ⟨hoj, hpj⟩ := ho j hjr.2
        rcases ((hc' k hk).mem j).mp hj with ⟨h1, h2, h3⟩ | ⟨i, hi, rest, e, hjr⟩
        · have hne : o j ≠ o k := fun c => by rw [c, hpk] at hpj; (clear hpk hok hk; omega)
          rcases Nat.lt_or_gt_of_ne hne with c | c
          · have : o k ∈ col (o j) := ((hc (o j) hoj).mem (o k)).mpr (.inl ⟨c, hok, by rw [hs]; exact h3⟩)
            have := L2 _ hoj _ this
            omega
          · exact ((hc (o k) hok).mem (o j)).mpr (.inl ⟨c, hoj, h3⟩)
        · have e2 := ih i hi (by (clear hpj hoj hok hk; omega))
          rw [e, List.map_cons] at e2
          exact IsCol.up hc (ho i (by (clear hpj hoj hok hk; omega))).1 e2.symm (List.mem_map.mpr ⟨j, hjr, rfl⟩)
      · intro hq
        have hqr := (hc (o k) hok).rng q hq
        have hlt := L2 _ hok _ hq
        rcases ((hc (o k) hok).mem q).mp hq with ⟨h1, h2, h3⟩ | ⟨i, hi, rest, e, hjr⟩
        · refine List.mem_map.mpr ⟨pos q, ((hc' k hk).mem _).mpr (.inl ⟨by omega, (hp q h2).1, ?_⟩), (hp q h2).2⟩
          show T (o k) (o (pos q)) = true
          rw [(hp q h2).2]; exact h3
        · have hin : i < n := by (clear hlt hpk hok hk; omega)
          obtain ⟨hpi, hopi⟩ := hp i hin
          have hlt2 := htop i (o k) rest hin e
          rw [hpk] at hlt2
          have e2 := ih (pos i) hlt2 (by omega)
          rw [hopi, e] at e2
          cases e3 : col' (pos i) with
          | nil => rw [e3] at e2; cases e2
          | cons k' r' =>
            rw [e3, List.map_cons] at e2
            obtain ⟨e4, e5⟩ := List.cons.inj e2
            have hk' : k' = k := by
              have hk'n := ((hc' (pos i) hpi).rng k' (by rw [e3]; exact .head _)).2
              have := (ho k' hk'n).2
              rw [e4, hpk] at this; exact this.symm
            rw [hk'] at e3
            rw [← e5] at hjr
            obtain ⟨j, hj, rfl⟩ := List.mem_map.mp hjr
            exact List.mem_map.mpr ⟨j, IsCol.up hc' hpi e3 hj, rfl⟩
end
end
section
theorem IsCol.congr {t t' : Nat → Nat → Bool} {n : Nat} {col : Nat → List Nat} {k : Nat} (h : IsCol t n col k) (hk : k < n) (e : ∀ i j, i < n → j < n → t i j = t' i j) : IsCol t' n col k := by
  refine { inc := h.inc, rng := h.rng, mem := fun j => (h.mem j).trans ?_ }
  unfold ColMem
  constructor
  · rintro (⟨h1, h2, h3⟩ | h1)
    · exact .inl ⟨h1, h2, by rw [← e k j hk h2]; exact h3⟩
    · exact .inr h1
  · rintro (⟨h1, h2, h3⟩ | h1)
    · exact .inl ⟨h1, h2, by rw [e k j hk h2]; exact h3⟩
    · exact .inr h1
theorem seen_rch {T : Nat → Nat → Bool} {n k : Nat} {seen : List Nat} (h0 : k ∈ seen) (hc : ∀ p ∈ seen, p ≤ k → ∀ j, j < n → T p j = true → j ∈ seen) {j : Nat} (h : Rch T n k j) : j ∈ seen := by
  induction h with
  | refl => exact h0
  | step _ hp hj ht ih => exact hc _ ih hp _ hj ht
theorem met_col {T : Nat → Nat → Bool} {n k : Nat} {col : Nat → List Nat} {seen : List Nat} (hs : ∀ i j, T i j = T j i) (hc : ∀ k, k < n → IsCol T n col k) (hk : k < n) (h0 : k ∈ seen) (h1 : ∀ p ∈ seen, Rch T n k p) (h2 : ∀ p ∈ seen, p ≤ k → ∀ j, j < n → T p j = true → j ∈ seen) :
    ((List.range n).filter fun j => decide (k < j) && decide (j ∈ seen)) = col k := by
  refine sorted_eq (R := fun a b : Nat => a < b) (fun a => Nat.lt_irrefl a) (fun a b h1 h2 => by omega) (List.pairwise_lt_range.filter _) (hc k hk).inc fun j => ?_
  rw [IsCol.iff_rch hs hc hk]
  simp only [List.mem_filter, List.mem_range, Bool.and_eq_true, decide_eq_true_eq]
  constructor
  · rintro ⟨a, b, c⟩; exact ⟨b, a, h1 j c⟩
  · rintro ⟨a, b, c⟩; exact ⟨b, a, seen_rch h0 h2 c⟩
theorem idx_at : ∀ {l : List Nat} {i p : Nat}, l.Nodup → l[i]? = some p → l.idxOf p = i
  | [], _, _, _, h => by simp at h
  | a :: r, 0, p, _, h => by simp at h; subst h; simp
  | a :: r, i + 1, p, hn, h => by
    have hn' := List.nodup_cons.mp hn
    have h' : r[i]? = some p := by simpa using h
    have hne : a ≠ p := fun e => hn'.1 (e ▸ List.mem_of_getElem? h')
    rw [List.idxOf_cons]
    have : (a == p) = false := by simpa using hne
    rw [this, idx_at hn'.2 h']; rfl
theorem all_in {n : Nat} {ord : List Nat} (hl : ord.length = n) (hn : ord.Nodup) (hb : ∀ q ∈ ord, q < n) {p : Nat} (hp : p < n) : p ∈ ord := by
  refine Classical.byContradiction fun c => ?_
  have := nodup_lt (l := p :: ord) (n := n) (List.nodup_cons.mpr ⟨c, hn⟩) (fun x hx => by
    rcases List.mem_cons.mp hx with h | h
    · subst h; exact hp
    · exact hb x h)
  simp at this; omega
theorem perm_facts {n : Nat} {ord : List Nat} (hl : ord.length = n) (hn : ord.Nodup) (hb : ∀ q ∈ ord, q < n) :
    (∀ i, i < n → ord.getD i 0 < n ∧ ord.idxOf (ord.getD i 0) = i) ∧ (∀ p, p < n → ord.idxOf p < n ∧ ord.getD (ord.idxOf p) 0 = p) := by
  have at1 : ∀ i, i < n → ord[i]? = some (ord.getD i 0) := fun i hi => by rw [List.getD_eq_getElem?_getD, List.getElem?_eq_getElem (by omega)]; rfl
  refine ⟨fun i hi => ⟨hb _ (List.mem_of_getElem? (at1 i hi)), idx_at hn (at1 i hi)⟩, fun p hp => ?_⟩
  obtain ⟨i, hi⟩ := List.getElem?_of_mem (all_in hl hn hb hp)
  have hi' := (List.getElem?_eq_some_iff.mp hi).1
  rw [idx_at hn hi]
  exact ⟨by omega, by rw [List.getD_eq_getElem?_getD, hi]; rfl⟩
theorem Picks.top {par : Nat → Option Nat} {ks : Nat → Int} {n : Nat} {ord : List Nat} (h : Picks par ks n ord) (hl : ord.length = n) (hn : ord.Nodup) (hb : ∀ q ∈ ord, q < n) {p q : Nat} (hp : p < n) (hq : q < n) (e : par p = some q) : ord.idxOf p < ord.idxOf q := by
  obtain ⟨i, hi⟩ := List.getElem?_of_mem (all_in hl hn hb hq)
  have := (h i q hi).1.2.2 p hp e
  obtain ⟨j, hj⟩ := List.getElem?_of_mem this
  rw [List.getElem?_take] at hj
  split at hj
  · rename_i hji; rw [idx_at hn hi, idx_at hn hj]; exact hji
  · cases hj
/-- the columns told once more are the same -/
theorem cols_again {T : Nat → Nat → Bool} {n : Nat} {col col' : Nat → List Nat} {css css' : List (List Int)} {ord : List Nat} {ks : Nat → Int} (hs : ∀ i j, T i j = T j i) (hc : ∀ k, k < n → IsCol T n col k)
    (hc' : ∀ k, k < n → IsCol (fun i j => T (ord.getD i 0) (ord.getD j 0)) n col' k) (hl : ord.length = n) (hn : ord.Nodup) (hb : ∀ q ∈ ord, q < n) (hP : Picks (fun p => (col p).head?) ks n ord)
    (h1 : css.length = n) (h2 : css'.length = n) (h3 : ∀ i, i < n → css[i]? = some (zi (col i))) (h4 : ∀ i, i < n → css'[ord.getD i 0]? = some (zi ((col' i).map fun j => ord.getD j 0))) : css' = css := by
  obtain ⟨p1, p2⟩ := perm_facts hl hn hb
  have hliu := IsCol.liu (o := fun i => ord.getD i 0) (pos := fun p => ord.idxOf p) hs hc hc' (fun p q rest hp e => hP.top hl hn hb hp ((hc p hp).rng q (by rw [e]; exact .head _)).2 (by simp [e])) p1 p2
  refine List.ext_getElem? fun p => ?_
  by_cases hp : p < n
  · obtain ⟨a, b⟩ := p2 p hp
    have := h4 _ a
    rw [hliu _ a] at this
    simp only [b] at this
    rw [this, h3 p hp]
  · rw [List.getElem?_eq_none (by omega), List.getElem?_eq_none (by omega)]
theorem cols_range {n : Nat} {T : Nat → Nat → Bool} {col : Nat → List Nat} {css : List (List Int)} (hc : ∀ i, i < n → IsCol (fun i j => T ((List.range n).getD i 0) ((List.range n).getD j 0)) n col i)
    (h : ∀ i, i < n → css[(List.range n).getD i 0]? = some (zi ((col i).map fun j => (List.range n).getD j 0))) : (∀ i, i < n → IsCol T n col i) ∧ ∀ i, i < n → css[i]? = some (zi (col i)) := by
  have r : ∀ i, i < n → (List.range n).getD i 0 = i := fun i hi => by simp [List.getD_eq_getElem?_getD, hi]
  refine ⟨fun i hi => (hc i hi).congr hi fun a b ha hb => by rw [r a ha, r b hb], fun i hi => ?_⟩
  have := h i hi
  rw [r i hi] at this
  rw [this]
  congr 2
  have e : (col i).map (fun j => (List.range n).getD j 0) = (col i).map id := List.map_congr_left fun j hj => r j ((hc i hi).rng j hj).2
  rw [e, List.map_id]
end
section
open PySem PySem.W PyProof.Rows
section
variable {w : World} {B : Heap} {A : Around} {L : Addr} {N : List (Str × Option Addr)} {l : List (Option Value)} {σ : Own} {φ : Frz} {s₀ s : Shared}
theorem fmod_nat (x : Int) {n : Nat} (h : 0 < n) : ∃ p : Nat, x.fmod n = p ∧ p < n := by
  refine ⟨(x.fmod n).toNat, ?_, ?_⟩
  · have := Int.fmod_nonneg_of_pos x (b := (n : Int)) (by omega); omega
  · have := Int.fmod_lt_of_pos x (b := (n : Int)) (by omega)
    have := Int.fmod_nonneg_of_pos x (b := (n : Int)) (by omega); omega
inductive TiC (σ : Own) (n : Nat) (i : Nat) (ys : List Value) (σ' : Own) : Prop
  | mk (rows : List Addr) (h1 : ys = rows.map Value.ref) (h2 : rows.length = i) (h3 : rows.Nodup) (h4 : (∀ r ∈ rows, σ r = none ∧ σ' r = some (IsL (rowV n fun _ => false)))) (h5 : Ext σ σ') : TiC σ n i ys σ'
inductive TiJ (σ : Own) (a ta : Addr) (rows : List Addr) (n : Nat) (t1 : Tok) (i : Nat) (l' : List (Option Value)) (σ'' : Own) : Prop
  | mk (T : Nat → Nat → Bool) (l4 l5 l6 l7 : Option Value) (h1 : l' = [some (.int n t1), some (.ref a), some (.ref ta), l4, l5, l6, l7]) (h2 : Mat σ'' ta rows n T) (h3 : (∀ i j, T i j = T j i)) (h4 : (∀ i, T i i = false)) (h5 : Ext σ σ'') : TiJ σ a ta rows n t1 i l' σ''
theorem tied_spec (hB : Base w B) (R : Rm A 1) (S : St B L N l σ φ s₀ s)
  (a : Addr) (vs : List Value) (ns : List Int) (n : Nat) (t1 : Tok) (hv : σ a = some (IsL vs)) (hi : Ints vs ns) (hsz : vs.length < 1000000) (hn : 0 < n) (hn2 : n < 1000) (Q : Value → Shared → Prop) (E)
  (k : ∀ σ' ta rows T s', Ext σ σ' → Mat σ' ta rows n T → (∀ i j, T i j = T j i) → (∀ i, T i i = false) → St B L N l σ' φ s₀ s' → Q (.ref ta) s') :
  wpAny (model PR w) A (call (.ref 181) [.int n t1, .ref a]) Q E s := by
  refine call_st [(nm "size", true), (nm "numbers", false), (nm "tied", false), (nm "x", false), (nm "a", false), (nm "b", false), (nm "flag", false)] [some (.int n t1), some (.ref a), none, none, none, none, none] [(nm "range", .type "range")] (fun v σ' => ∀ s, St B L N l σ' φ s₀ s → Q v s)
    S (by have := R.depth; omega) hB.lim (hB.globs rfl) (hB.X _ _ rfl) rfl (codeRec_of hB.X rfl) rfl rfl rfl rfl rfl (cells_mix rfl) (some_cells rfl) (by decide) rfl (by walk_at "init") ?_ ?_
  · intro env A' L' κ φ' s' hκ e eG dA S'
    have R' := R.deeper dA
    dsimp only [List.map] at S' e ⊢
    dsimp only [cond] at S' e ⊢
    have hκ1 : κ (nm "size") ≠ none := hκ (nm "size", true) (by simp) rfl
    walk_at "m"
    refine comp_set_j n (fun i v => ∃ t, v = .int (0 + i * 1) t) needN (TiC σ n) [nm "k"] [(nm "size", .int n t1)] [] [] (fun D => [some (.int n t1), some (.ref a), some (.ref D), none, none, none, none])
      S' e (envF_nil e) (compOk_of rfl eG (fun _ h => nomatch h) ?_) ?_ (fun _ _ _ _ => trivial) (by rw [sizeLine_eq]; (clear hn hsz; omega)) ?_ ?_ (fun D => by walk_at "sv") ?_ (swaps_yes e (by walk_at "mm") rfl rfl) (fun _ _ => rfl) (by with_unfolding_all (intro _; rfl))
    · intro p hp
      simp at hp; subst hp
      exact .inl ⟨_, hκ1, by walk_at "gv"⟩
    · walk_at "m"
      refine range_1 S' fun r s hr S => ?_
      walk_at "m"
      refine iter_range R'.handled S hr (by unfold fitsR; omega) (by unfold fitsR; (clear hn hsz; omega)) (.inl rfl) (by rw [size_one]; simp) fun it s rd => ⟨σ, rd, [], rfl, rfl, .nil, fun _ h => (nomatch h), Ext.rfl⟩
    · rintro i ys σ' ⟨rows, rfl, h, _⟩; simp; omega
    · rintro i v ys σ' cenv C φ'' s hlt ⟨t, rfl⟩ ⟨rows, rfl, hlen, hnd, hrows, hext⟩ e' eF' eG' S
      dsimp only [List.map] at S e' ⊢
      walk_at "m"
      walk_at "m"
      refine newList_l S (by decide) fun a1 s h1 S => ?_
      walk_at "m"
      refine mul_l S upd_self (by (clear hn hlen hsz; omega)) fun b s h2 S => ?_
      have hb1 : b ≠ a1 := (by first | exact ne_sn h2 upd_self | exact ne_ns h2 upd_self | exact ne_sn upd_self h2 | exact ne_ns upd_self h2)
      have hb2 : σ' b = none := by rwa [upd_ne hb1] at h2
      walk_at "m"
      refine ⟨_, _, ⟨rows ++ [b], by simp, by simp [hlen], ?_, fun r hr => ?_, ?_⟩, S⟩
      · refine List.nodup_append.mpr ⟨hnd, by simp, fun x hx y hy => ?_⟩
        simp at hy; subst hy
        intro c; subst c
        rw [(hrows x hx).2] at hb2; cases hb2
      · rcases List.mem_append.mp hr with hr | hr
        · have hne1 : r ≠ a1 := (by first | exact ne_sn ((hrows r hr).2) h1 | exact ne_ns ((hrows r hr).2) h1 | exact ne_sn h1 ((hrows r hr).2) | exact ne_ns h1 ((hrows r hr).2))
          have hne2 : r ≠ b := (by first | exact ne_sn ((hrows r hr).2) hb2 | exact ne_ns ((hrows r hr).2) hb2 | exact ne_sn hb2 ((hrows r hr).2) | exact ne_ns hb2 ((hrows r hr).2))
          exact ⟨(hrows r hr).1, by rw [upd_ne hne2, upd_ne hne1]; exact (hrows r hr).2⟩
        · simp at hr; subst hr
          refine ⟨hext.none hb2, ?_⟩
          rw [upd_self]
          congr 2
          unfold rowV
          apply List.ext_getElem?
          intro j
          by_cases hj : j < n <;> simp [List.getElem?_replicate, hj]
      · exact (hext.upd (hext.none h1)).upd (hext.none hb2)
    · rintro ta ys σ' s ⟨rows, rfl, hlen, hnd, hrows, hext⟩ hta S
      walk_at "m"
      have hM : Mat (upd σ' ta (IsL (rows.map Value.ref))) ta rows n (fun _ _ => false) := by
        have hoff : ta ∉ rows := fun c => by rw [(hrows ta c).2] at hta; cases hta
        exact ⟨upd_self, hlen, hnd, fun i r hr => by rw [upd_ne (fun c => hoff (by rw [← c]; exact List.mem_of_getElem? hr))]; exact (hrows r (List.mem_of_getElem? hr)).2, hoff⟩
      refine for_j vs.length (fun i v => vs[i]? = some v) (needL a vs) (TiJ σ a ta rows n t1) S ?_ (fun i l' σ'' ⟨T, l4, l5, l6, l7, _, _, _, _, h⟩ => h _ _ hv) ?_ ?_ (by with_unfolding_all (intro _; rfl))
      · walk_at "m"
        refine iter_list R'.handled S (by rw [upd_ne ((by first | exact ne_sn hta (hext _ _ hv) | exact ne_ns hta (hext _ _ hv) | exact ne_sn (hext _ _ hv) hta | exact ne_ns (hext _ _ hv) hta))]; exact hext _ _ hv) fun it s rd => ⟨_, _, rd, _, none, none, none, none, rfl, hM, fun _ _ => rfl, fun _ => rfl, hext.upd (hext.none hta)⟩
      · rintro i v l' σ'' φ'' s hlt hP ⟨T, l4, l5, l6, l7, rfl, hM, hsym, hirr, hext'⟩ S
        obtain ⟨x, tx, _, rfl⟩ := hi.at hP
        walk_at "m"
        refine mod_v S (by (clear hn2 hlen hlt hsz; omega)) fun t s S => ?_
        walk_at "m"
        refine fdiv_v S (by (clear hn2 hlen hlt hsz; omega)) (by (clear hn hlen hlt hsz; omega)) fun t s S => ?_
        walk_at "m"
        refine mod_v S (by (clear hn2 hlen hlt hsz; omega)) fun t s S => ?_
        walk_at "m"
        obtain ⟨p, hp, hpn⟩ := fmod_nat x hn
        obtain ⟨q, hq, hqn⟩ := fmod_nat (x.fdiv n) hn
        rw [hp, hq] at S
        refine wpAny_If ?_
        walk_at "m"
        by_cases hpq : p = q
        · subst hpq
          refine ite_f (by simp) ?_
          walk_at "m"
          exact ⟨_, _, ⟨T, _, _, _, _, rfl, hM, hsym, hirr, hext'⟩, S⟩
        · refine ite_t (by simp; (clear hqn hq hpn hp hlt hlen hn2 hn hsz; omega)) ?_
          walk_at "m"
          obtain ⟨rp, hrp⟩ : ∃ r, rows[p]? = some r := ⟨rows[p]'(by (clear hq hp hlt hn2 hn hsz; omega)), List.getElem?_eq_getElem _⟩
          obtain ⟨rq, hrq⟩ : ∃ r, rows[q]? = some r := ⟨rows[q]'(by (clear hq hp hlt hn2 hn hsz; omega)), List.getElem?_eq_getElem _⟩
          refine item_n S hM.top (by simp; (clear hn hq hp hlt hsz; omega)) (by rw [List.getElem?_map, hrp]; rfl) ?_
          walk_at "m"
          refine item_n S (hM.row p rp hrp) (by rw [rowV_length]; (clear hn hlen hq hp hlt hsz; omega)) (rowV_get hqn) ?_
          walk_at "m"
          refine item_n S hM.top (by simp; (clear hn hq hp hlt hsz; omega)) (by rw [List.getElem?_map, hrp]; rfl) ?_
          walk_at "m"
          refine set_n S (hM.row p rp hrp) (by rw [rowV_length]; (clear hn hlen hq hp hlt hsz; omega)) (by rw [rowV_length]; (clear hq hp hlt hn2 hn hsz; omega)) fun s S => ?_
          have hM2 := hM.set (j := q) (b := !T p q) hrp
          have hext2 : Ext σ (upd σ'' rp (IsL ((rowV n (T p)).set q (.bool !T p q)))) := hext'.upd ((hrows rp (List.mem_of_getElem? hrp)).1)
          walk_at "m"
          refine item_n S hM2.top (by simp; (clear hn hq hp hlt hsz; omega)) (by rw [List.getElem?_map, hrq]; rfl) ?_
          walk_at "m"
          refine set_n S (hM2.row q rq hrq) (by rw [rowV_length]; (clear hn hlen hq hp hlt hsz; omega)) (by rw [rowV_length]; (clear hq hp hlt hn2 hn hsz; omega)) fun s S => ?_
          have hM3 := hM2.set (j := p) (b := !T p q) hrq
          walk_at "m"
          refine ⟨_, _, ⟨_, _, _, _, _, rfl, hM3, fun i j => ?_, fun i => ?_, hext2.upd ((hrows rq (List.mem_of_getElem? hrq)).1)⟩, S⟩
          · have := hsym i j
            by_cases a1 : i = p <;> by_cases a2 : i = q <;> by_cases a3 : j = p <;> by_cases a4 : j = q <;> simp_all
          · have := hirr i
            by_cases a1 : i = p <;> by_cases a2 : i = q <;> simp_all
      · rintro l' σ'' s ⟨T, l4, l5, l6, l7, rfl, hM, hsym, hirr, hext'⟩ S
        walk_at "m"
        exact ⟨_, _, S, fun s S => k _ _ _ _ s hext' hM hsym hirr S⟩
  · intro v σ' s'' h S''; exact h s'' S''
end
end
section
open PySem PySem.W PyProof.Rows
section
variable {w : World} {B : Heap} {A : Around} {L : Addr} {N : List (Str × Option Addr)} {l : List (Option Value)} {σ : Own} {φ : Frz} {s₀ s : Shared} {E : Value → Shared → Prop} {env : Env}
/-- a sorter that was just made -/
theorem Srt.init {x dx nd : Addr} {t3 t4 : Tok} (hx : σ x = none) (hdx : σ dx = none) (hnd : σ nd = none) (n1 : x ≠ dx) (n2 : x ≠ nd) (n3 : dx ≠ nd) :
    Srt w σ (upd (upd (upd σ x (IsIn 172 dx)) nd (IsD w [])) dx (IsAt (.ref nd) .none (.int 0 t3) (.int 0 t4))) ⟨x, dx, nd, 0, fun _ => 0, fun _ => 0, fun _ => 0, fun b => if b = x then (0, 0) else if b = dx then (1, 0) else (2, 0)⟩ [] (fun _ => 0) (fun _ => []) none 0 0 := by
  refine { ext := ((Ext.rfl.upd hx).upd hnd).upd hdx, tx := by simp, tdx := by simp [Ne.symm n1], tnd := by simp [Ne.symm n2, Ne.symm n3], tra := fun h => (nomatch h), tin := fun p hp => (nomatch hp), n0 := ⟨hx, hdx, hnd, fun h => (nomatch h)⟩, n1 := fun p hp => (nomatch hp), hx := ?_, hdx := ⟨t3, t4, upd_self⟩, hnd := ?_, hra := fun rs e => (nomatch e), info := fun p hp => (nomatch hp), nodup := .nil }
  · show upd _ dx _ x = _
    rw [upd_ne n1, upd_ne n2, upd_self]
  · show upd _ dx _ nd = _
    rw [upd_ne (Ne.symm n3), upd_self]; rfl
theorem nodup_sub : ∀ {l l' : List Nat}, l.Nodup → (∀ x ∈ l, x ∈ l') → l.length ≤ l'.length
  | [], _, _, _ => Nat.zero_le _
  | a :: l, l', hn, h => by
    obtain ⟨h1, h2⟩ := List.nodup_cons.mp hn
    have ha := h a (.head _)
    have := nodup_sub (l' := l'.erase a) h2 fun x hx => (List.mem_erase_of_ne (fun c : x = a => h1 (by rw [← c]; exact hx))).mpr (h x (.tail _ hx))
    rw [List.length_erase_of_mem ha] at this
    have := List.length_pos_of_mem ha
    simp; omega
theorem item_t {value slice : Expr} {a : Addr} {vs : List Value} {k : Int} {u : Tok} {x : Value} {Q : Value → Shared → Prop} (S : St B L N l σ φ s₀ s) (h : σ a = some (IsTp vs))
    (h0 : 0 ≤ k) (hfit : k < 2 ^ 63) (hx : vs[k.toNat]? = some x) (hq : Q x s)
    (hs : subscripted slice false (.ref a) (.int k u) = operate [.ref a, .int k u] (getItem (.ref a) (.int k u)) := by with_unfolding_all rfl) :
    wpAny (model PR w) A (subscriptTail value slice (.ref a) (.int k u)) Q E s := by
  obtain ⟨n, ho⟩ := S.isTp h
  have hl := (List.getElem?_eq_some_iff.mp hx).1
  exact item_tupleT (l := vs) ⟨_, ho, rfl, n, rfl⟩ (by (clear hfit hl; omega)) hfit (seqIndex_of h0 (by (clear h0 hfit; omega))) hx hq hs
theorem PV.ext {σ σ' : Own} {ks : Nat → Int} {pt : Addr → Nat} {v : Value} (h : PV σ ks pt v) (e : Ext σ σ') : PV σ' ks pt v := let ⟨t, u, w, h1, h2⟩ := h; ⟨t, u, w, h1, e _ _ h2⟩
theorem PV.put {σ : Own} {ks : Nat → Int} {pt : Addr → Nat} {v : Value} {a : Addr} {xs : List Value} {P : Obj → Prop} (h : PV σ ks pt v) (ha : σ a = some (IsL xs)) : PV (upd σ a P) ks pt v := by
  obtain ⟨t, u, w, h1, h2⟩ := h
  exact ⟨t, u, w, h1, by rw [upd_ne (fun c => by rw [c, ha] at h2; exact isL_tp h2)]; exact h2⟩
theorem PV.new {σ : Own} {ks : Nat → Int} {pt : Addr → Nat} {v : Value} {t : Addr} {P : Obj → Prop} (h : PV σ ks pt v) (ht : σ t = none) (p : Nat) : PV (upd σ t P) ks (fun b => if b = t then p else pt b) v ∧ kpt (fun b => if b = t then p else pt b) v = kpt pt v := by
  obtain ⟨t', u, w, rfl, h2⟩ := h
  have hne : t' ≠ t := (by first | exact ne_sn h2 ht | exact ne_ns h2 ht | exact ne_sn ht h2 | exact ne_ns ht h2)
  refine ⟨⟨t', u, w, rfl, ?_⟩, by simp [kpt, hne]⟩
  rw [upd_ne hne]; simp only [if_neg hne]; exact h2
/-- the heap and the order that the run keeps -/
structure RJ (σ σ₁ : Own) (ks : Nat → Int) (pt : Addr → Nat) (ha oa : Addr) (hvs ovs : List Value) (ord : List Nat) : Prop where
  ext : Ext σ σ₁
  heap : σ₁ ha = some (IsL hvs)
  pv : ∀ v ∈ hvs, PV σ₁ ks pt v
  hf : HeapFrom (ltP ks pt) 0 hvs
  order : σ₁ oa = some (IsL ovs)
  oi : Ints ovs (zi ord)
theorem RJ.push {σ σ₁ : Own} {ks : Nat → Int} {pt : Addr → Nat} {ha oa : Addr} {hvs ovs hvs' : List Value} {ord : List Nat} {t : Addr} {p : Nat} {u u' : Tok} (r : RJ σ σ₁ ks pt ha oa hvs ovs ord) (h1 : σ ha = none) (h2 : ha ≠ oa) (ht : σ₁ t = none)
    (hh : HeapFrom (ltP ks (fun b => if b = t then p else pt b)) 0 hvs') (hp : hvs'.Perm (.ref t :: hvs)) :
    RJ σ (upd (upd σ₁ t (IsTp [.int (ks p) u, .int (p : Nat) u'])) ha (IsL hvs')) ks (fun b => if b = t then p else pt b) ha oa hvs' ovs ord ∧ (hvs'.map (kpt (fun b => if b = t then p else pt b))).Perm (hvs.map (kpt pt) ++ [p]) := by
  have hta : ha ≠ t := (by first | exact ne_sn r.heap ht | exact ne_ns r.heap ht | exact ne_sn ht r.heap | exact ne_ns ht r.heap)
  have hto : oa ≠ t := (by first | exact ne_sn r.order ht | exact ne_ns r.order ht | exact ne_sn ht r.order | exact ne_ns ht r.order)
  have hh1 : upd σ₁ t (IsTp [.int (ks p) u, .int (p : Nat) u']) ha = some (IsL hvs) := by rw [upd_ne hta]; exact r.heap
  refine ⟨{ ext := (r.ext.upd (r.ext.none ht)).upd h1, heap := upd_self, pv := fun v hv => ?_, hf := hh, order := by rw [upd_ne (Ne.symm h2), upd_ne hto]; exact r.order, oi := r.oi }, ?_⟩
  · refine PV.put ?_ hh1
    rcases List.mem_cons.mp (hp.mem_iff.mp hv) with c | c
    · subst c; exact ⟨t, u, u', rfl, by simp [upd_self]⟩
    · exact ((r.pv v c).new ht p).1
  · have e : hvs.map (kpt (fun b => if b = t then p else pt b)) = hvs.map (kpt pt) := List.map_congr_left fun v hv => ((r.pv v hv).new (P := IsTp []) ht p).2
    refine (hp.map _).trans ?_
    rw [List.map_cons, e]
    have : kpt (fun b => if b = t then p else pt b) (.ref t) = p := by simp [kpt]
    rw [this]
    exact (List.perm_append_comm (l₁ := [p]) (l₂ := hvs.map (kpt pt)))
inductive RuA (w : World) (σ : Own) (ca ka x : Addr) (n : Nat) (i : Nat) (l' : List (Option Value)) (σ' : Own) : Prop
  | mk (a : SA) (l4 : Option Value) (h1 : l' = [some (.ref ca), some (.ref ka), some (.ref x), l4, none, none]) (h2 : SA.x a = x) (h3 : Srt w σ σ' a ((List.range i).map fun j => n - 1 - j) (fun _ => 0) (fun _ => []) none 0 0) : RuA w σ ca ka x n i l' σ'
inductive RuB (w : World) (σ : Own) (ca ka : Addr) (n : Nat) (a : SA) (nodes : List Nat) (par : Nat → Option Nat) (i : Nat) (l' : List (Option Value)) (σ' : Own) : Prop
  | mk (l4 : Option Value) (h1 : l' = [some (.ref ca), some (.ref ka), some (.ref a.x), l4, none, none]) (h2 : Srt w σ σ' a nodes (fun q => (((List.range i).filter fun c => decide (par c = some q)).length : Nat)) (fun p => if p < i then (par p).toList else []) none 0 0) : RuB w σ ca ka n a nodes par i l' σ'
inductive RuC (w : World) (σ : Own) (ca ka ha oa : Addr) (n : Nat) (a1 : SA) (nodes : List Nat) (par : Nat → Option Nat) (ks : Nat → Int) (m : Nat) (l' : List (Option Value)) (σ' : Own) : Prop
  | mk (σ₁ : Own) (ord : List Nat) (hvs ovs : List Value) (rs : List Nat) (np : Nat → Int) (pt : Addr → Nat) (l4 : Option Value) (h1 : m = n - ord.length) (h2 : l' = [some (.ref ca), some (.ref ka), some (.ref a1.x), l4, some (.ref ha), some (.ref oa)]) (h3 : RJ σ σ₁ ks pt ha oa hvs ovs ord) (h4 : Picks par ks n ord) (h5 : RS par n ord (hvs.map (kpt pt)) rs np) (h6 : Srt w σ₁ σ' a1 nodes np (fun p => (par p).toList) (some rs) ((ord.length : Int) + hvs.length) ord.length) : RuC w σ ca ka ha oa n a1 nodes par ks m l' σ'
inductive RuD (w : World) (σ : Own) (ca ka ha oa : Addr) (n : Nat) (a1 : SA) (nodes : List Nat) (par : Nat → Option Nat) (ks : Nat → Int) (l' : List (Option Value)) (σ' : Own) : Prop
  | mk (ord : List Nat) (ovs : List Value) (np : Nat → Int) (l4 : Option Value) (h1 : l' = [some (.ref ca), some (.ref ka), some (.ref a1.x), l4, some (.ref ha), some (.ref oa)]) (h2 : Ext σ σ') (h3 : σ' oa = some (IsL ovs)) (h4 : Ints ovs (zi ord)) (h5 : Picks par ks n ord) (h6 : RS par n ord [] [] np) : RuD w σ ca ka ha oa n a1 nodes par ks l' σ'
inductive RuE (w : World) (σ : Own) (ca ka ha oa : Addr) (n : Nat) (a1 : SA) (nodes : List Nat) (par : Nat → Option Nat) (ks : Nat → Int) (hvs ovs : List Value) (ord rs : List Nat) (np : Nat → Int) (pt : Addr → Nat) (y : Addr × List Value) (i : Nat) (l' : List (Option Value)) (σ' : Own) : Prop
  | mk (σ₁ : Own) (hvs' : List Value) (pt' : Addr → Nat) (l4 : Option Value) (h1 : l' = [some (.ref ca), some (.ref ka), some (.ref a1.x), l4, some (.ref ha), some (.ref oa)]) (h2 : RJ σ σ₁ ks pt' ha oa hvs' ovs ord) (h3 : σ₁ y.1 = some (IsTp y.2)) (h4 : (hvs'.map (kpt pt')).Perm (hvs.map (kpt pt) ++ rs.take i)) (h5 : Srt w σ₁ σ' a1 nodes (fun q => if q ∈ rs then -1 else np q) (fun p => (par p).toList) (some []) ((ord.length : Int) + hvs.length + rs.length) ord.length) : RuE w σ ca ka ha oa n a1 nodes par ks hvs ovs ord rs np pt y i l' σ'
theorem run_spec (hB : Base w B) (R : Rm A 14) (F : FmAny A φ B L) (S : St B L N l σ φ s₀ s) {ca ka : Addr} {ads : List Addr} {css : List (List Int)} {kv : List Value} {kl : List Int} {n : Nat} {par : Nat → Option Nat}
  (hC : Cols σ ca ads css) (hcl : css.length = n) (hk : σ ka = some (IsL kv)) (hki : Ints kv kl) (hkl : kl.length = n) (hn : n < 100) (hpar : ∀ p q, p < n → par p = some q → p < q ∧ q < n) (hc1 : ∀ p, p < n → par p = none → css[p]? = some []) (hc2 : ∀ p q, p < n → par p = some q → ∃ r, css[p]? = some ((q : Int) :: r)) {Q : Value → Shared → Prop}
  (k : ∀ σ' oa ovs ord s', Ext σ σ' → σ' oa = some (IsL ovs) → Ints ovs (zi ord) → Picks par (fun p => kl.getD p 0) n ord → ord.length = n → ord.Nodup → (∀ q ∈ ord, q < n) → St B L N l σ' φ s₀ s' → Q (.ref oa) s') :
  wpAny (model PR w) A (call (.ref 198) [.ref ca, .ref ka]) Q E s := by
  refine call_stF [(nm "columns", false), (nm "keys", false), (nm "sorter", false), (nm "point", false), (nm "heap", false), (nm "order", false)] [some (.ref ca), some (.ref ka), none, none, none, none]
    [(nm "TopologicalSorter", .ref 172), (nm "range", .type "range"), (nm "len", .builtin "len"), (nm "heappush", .ref 28), (nm "heappop", .ref 35)]
    (fun v σ' => ∀ s, St B L N l σ' φ s₀ s → Q v s)
    S (by have := R.depth; omega) hB.lim (hB.globs rfl) (hB.X _ _ rfl) rfl (codeRec_of hB.X rfl) rfl rfl rfl rfl rfl (cells_loc rfl) (no_cells rfl) (by decide) rfl (by walk_at "init") ?_ ?_
  · intro env A' L' κ φ' s' _ e eG dA hF S'
    have R' := R.deeper dA
    have F' := hF F
    dsimp only [List.map] at S' e ⊢
    dsimp only [cond] at S' e ⊢
    have hal : ads.length = n := hC.len.trans hcl
    walk_at "m"
    refine srt_make hB (R'.less (by omega)) S' fun x dx nd t3 t4 s hx hdx hnd n1 n2 n3 S => ?_
    have I0 := Srt.init (w := w) (t3 := t3) (t4 := t4) hx hdx hnd n1 n2 n3
    walk_at "m"
    refine for_j n (fun i v => ∃ t : Tok, v = .int (((n : Int) - 1) - (i : Nat)) t) needN (RuA w σ ca ka x n) S ?_ (fun _ _ _ _ => trivial) ?_ ?_ (by with_unfolding_all (intro _; rfl))
    · walk_at "m"
      refine len_l S (I0.ext _ _ hC.top) (by simp [hal]; (clear hcl hkl hal; omega)) fun t s S => ?_
      walk_at "m"
      rw [List.length_map, hal]
      refine range_3 S (by unfold fitsR; (clear hcl hkl hal; omega)) (by unfold fitsR; omega) (.inr rfl) fun r s hr S => ?_
      walk_at "m"
      refine iter_dn R'.handled S hr (by unfold fitsR; (clear hcl hkl hal; omega)) (by unfold fitsR; omega) (n := n) (by (clear hkl hn hal; omega)) fun it s rd => ⟨_, _, rd, _, _, rfl, rfl, I0⟩
    · rintro i v l' σ' φ'' s hi ⟨t, rfl⟩ ⟨a, l4, rfl, hax, I⟩ S
      obtain ⟨p, hp⟩ : ∃ p : Nat, n - 1 - i = p := ⟨_, rfl⟩
      have hpz : ((n : Int) - 1) - (i : Nat) = (p : Nat) := by (clear hkl hal hcl; omega)
      rw [hpz]
      subst hax
      obtain ⟨t3, t4, hdx⟩ := I.hdx
      walk_at "m"
      refine meth_at hB S I.hx hdx rfl rfl rfl (fun _ _ _ _ _ _ _ _ => rfl) ?_
      walk_at "m"
      refine add_new hB (R'.less (by (clear hpz hp hi hal hkl hcl; omega))) S I (by simp; (clear hcl hkl hal hpz hp; omega)) (p := p) (by simp; intro j hj; (clear hkl hal hp hcl; omega)) fun σ2 x' d' s1 s I2 S => ?_
      refine ⟨rfl, ?_⟩
      walk_at "m"
      have e1 : (List.range (i + 1)).map (fun j => n - 1 - j) = (List.range i).map (fun j => n - 1 - j) ++ [p] := by rw [List.range_succ, List.map_append]; simp [hp]
      refine ⟨_, _, ⟨a.with p x' d' s1, _, rfl, rfl, ?_⟩, S⟩
      rw [e1]
      exact I2.cong (fun q _ => by simp) (fun q _ => by simp)
    · rintro l' σ' s ⟨a, l4, rfl, hax, I⟩ S
      subst hax
      walk_at "m"
      obtain ⟨nodes, hnodes, I⟩ : ∃ nodes, (List.range n).map (fun j => n - 1 - j) = nodes ∧ Srt w σ _ a nodes (fun _ => 0) (fun _ => []) none 0 0 := ⟨_, rfl, I⟩
      have hmem : ∀ q, q ∈ nodes ↔ q < n := fun q => by
        rw [← hnodes]; simp
        constructor
        · rintro ⟨j, hj, e⟩; (clear hkl hal hcl; omega)
        · intro h; exact ⟨n - 1 - q, by (clear hkl hal hcl; omega), by (clear hcl hkl hn hal; omega)⟩
      refine for_j n (fun i v => ∃ t : Tok, v = .int (i : Nat) t) needN (RuB w σ ca ka n a nodes par) S ?_ (fun _ _ _ _ => trivial) ?_ ?_ (by with_unfolding_all (intro _; rfl))
      · walk_at "m"
        refine len_l S (I.ext _ _ hC.top) (by simp [hal]; (clear hcl hkl hal; omega)) fun t s S => ?_
        walk_at "m"
        rw [List.length_map, hal]
        refine range_1 S fun r s hr S => ?_
        walk_at "m"
        exact iter_n R'.handled S hr (by (clear hcl hkl hal; omega)) fun it s rd => ⟨_, _, rd, _, rfl, I.cong (fun q _ => by simp) (fun q _ => by simp)⟩
      · rintro i v l' σ' φ'' s hi ⟨ti, rfl⟩ ⟨l4, rfl, I⟩ S
        walk_at "m"
        refine wpAny_If ?_
        obtain ⟨c, hc⟩ : ∃ c, ads[i]? = some c := ⟨ads[i]'(by (clear hkl hcl; omega)), List.getElem?_eq_getElem _⟩
        obtain ⟨cs, hcs⟩ : ∃ cs, css[i]? = some cs := ⟨css[i]'(by (clear hkl hal; omega)), List.getElem?_eq_getElem _⟩
        obtain ⟨cv, hcv, hcvi⟩ := hC.col i c cs hc hcs
        have hts := I.ext _ _ hC.top
        have hcv' := I.ext _ _ hcv
        walk_at "m"
        refine item_n S hts (by simp [hal]; (clear hcl hkl hal; omega)) (by rw [List.getElem?_map, hc]; rfl) ?_
        walk_at "m"
        refine newList_l S (by decide) fun b s hb S => ?_
        have I1 := I.more (Ext.rfl.upd (P := IsL []) hb)
        have hts1 := I1.ext _ _ hC.top
        have hcv1 := I1.ext _ _ hcv
        walk_at "m"
        refine ne_i (R'.less (by omega)) S hcv1 hcvi upd_self Ints.nil ?_
        walk_at "m"
        cases hp : par i with
        | none =>
          have := hc1 i hi hp
          rw [this] at hcs; cases hcs
          refine ite_f (by simp) ?_
          walk_at "m"
          refine ⟨_, _, ⟨_, rfl, I1.cong (fun q _ => ?_) (fun q _ => ?_)⟩, S⟩
          · rw [List.range_succ, List.filter_append]; simp [hp]
          · by_cases e1 : q < i
            · have : q < i + 1 := by (clear hi hal hn hkl hcl; omega)
              simp [e1, this]
            · by_cases e2 : q = i
              · subst e2; simp [hp]
              · have : ¬ q < i + 1 := by (clear hi hal hn hkl hcl; omega)
                simp [e1, this]
        | some q0 =>
          obtain ⟨r, hr⟩ := hc2 i q0 hi hp
          rw [hr] at hcs; cases hcs
          refine ite_t (by simp) ?_
          obtain ⟨t3, t4, hdx⟩ := I1.hdx
          walk_at "m"
          refine meth_at hB S I1.hx hdx rfl rfl rfl (fun _ _ _ _ _ _ _ _ => rfl) ?_
          walk_at "m"
          refine item_n S hts1 (by simp [hal]; (clear hcl hkl hal; omega)) (by rw [List.getElem?_map, hc]; rfl) ?_
          walk_at "m"
          obtain ⟨tq, htq⟩ := hcvi.get (i := 0) (k := (q0 : Int)) (by simp)
          refine item_l S hcv1 (by decide) (by decide) htq ?_
          walk_at "m"
          have hpq := hpar i q0 hi hp
          refine add_old hB (R'.less (by omega)) S I1 (p := i) (q := q0) ((hmem i).mpr hi) ((hmem q0).mpr hpq.2) (by simp) fun σ2 s I2 S => ?_
          refine ⟨rfl, ?_⟩
          walk_at "m"
          refine ⟨_, _, ⟨_, rfl, I2.cong (fun q _ => ?_) (fun q _ => ?_)⟩, S⟩
          · show (if q = q0 then _ else _) = _
            rw [List.range_succ, List.filter_append]
            by_cases e1 : q = q0
            · subst e1; simp [hp]
            · have : ¬ q0 = q := fun c => e1 c.symm
              simp [hp, e1, this]
          · show (if q = i then _ else _) = _
            by_cases e2 : q = i
            · subst e2; simp [hp]
            · by_cases e1 : q < i
              · have : q < i + 1 := by (clear hpq hi hal hn hkl hcl; omega)
                simp [e1, e2, this]
              · have : ¬ q < i + 1 := by (clear hpq hi hal hn hkl hcl; omega)
                simp [e1, e2, this]
      · rintro l' σ' s ⟨l4, rfl, I⟩ S
        obtain ⟨t3, t4, hdx⟩ := I.hdx
        have I0 := I.cong (np' := fun q => ((kids par n [] q).length : Nat)) (su' := fun p => (par p).toList) (fun q _ => by simp [kids]) (fun q hq => by simp [(hmem q).mp hq])
        clear I
        walk_at "m"
        refine meth_at hB S I0.hx hdx rfl rfl rfl (fun _ _ _ _ _ _ _ _ => rfl) ?_
        walk_at "m"
        refine prep_spec hB (R'.less (by omega)) (.inl ⟨_, F'⟩) S I0 (by rw [← hnodes]; simp; (clear hcl hkl hal; omega)) (fun p hp => by have := (hmem p).mp hp; (clear hcl hkl hal; omega)) (fun p _ => by cases par p <;> simp) (fun p hp q hq => ?_) fun D σ2 s I1 S => ?_
        · have h1 := (hmem p).mp hp
          have h2 : par p = some q := by simpa using hq
          have := hpar p q h1 h2
          exact ⟨(hmem q).mpr this.2, this.1⟩
        refine ⟨rfl, ?_⟩
        have hx1 : (a.prep D).x = a.x := rfl
        have RS0 := RS.start (par := par) (n := n) (np := fun q => ((kids par n [] q).length : Nat)) (fun _ _ => rfl) nodes I1.nodup hmem
        clear hdx I0
        obtain ⟨a1, rs0, S1, I1, RS0⟩ : ∃ (a1 : SA) (rs0 : List Nat), St B L' _ [some (.ref ca), some (.ref ka), some (.ref a1.x), _, none, none] σ2 _ s₀ s ∧ Srt w σ σ2 a1 nodes (fun q => ((kids par n [] q).length : Nat)) (fun p => (par p).toList) (some rs0) 0 0 ∧ RS par n [] [] rs0 (fun q => ((kids par n [] q).length : Nat)) := ⟨a.prep D, _, S, I1, RS0⟩
        clear S
        have S := S1
        walk_at "m"
        refine newList_l S (by decide) fun ha s hha S => ?_
        have I2 := I1.own (P := IsL []) hha
        walk_at "m"
        refine newList_l S (by decide) fun oa s hoa S => ?_
        have I3 := I2.own (P := IsL []) hoa
        walk_at "m"
        have hha0 : σ ha = none := I1.ext.none hha
        have hao : ha ≠ oa := (by first | exact ne_sn hoa upd_self | exact ne_ns hoa upd_self | exact ne_sn upd_self hoa | exact ne_ns upd_self hoa)
        have hoa0 : σ oa = none := by rw [upd_ne (Ne.symm hao)] at hoa; exact I1.ext.none hoa
        obtain ⟨ks, hks⟩ : ∃ ks : Nat → Int, (fun p => kl.getD p 0) = ks := ⟨_, rfl⟩
        have J0 : RJ σ (upd (upd σ ha (IsL [])) oa (IsL [])) ks (fun _ => 0) ha oa [] [] [] := ⟨(Ext.rfl.upd hha0).upd hoa0, by rw [upd_ne hao, upd_self], fun _ h => (nomatch h), fun i x y _ _ h => (by simp at h), upd_self, Ints.nil⟩
        have hkv : kv.length = n := by rw [hki.1, hkl]
        refine while_q (RuC w σ ca ka ha oa n a1 nodes par ks)
          (RuD w σ ca ka ha oa n a1 nodes par ks)
          n S ⟨_, [], [], [], rs0, _, fun _ => 0, _, by simp, rfl, J0, fun i p h => by simp at h, RS0, I3⟩ ?_ ?_
        · clear I3 I2 I1 S RS0 J0 hha hoa
          rintro m l' σ' s ⟨σ₁, ord, hvs, ovs, rs, np, pt, l4, rfl, rfl, J, PK, RS1, I⟩ S
          obtain ⟨t3, t4, hdx⟩ := I.hdx
          have hrn : ∀ r ∈ rs, r < n := fun r hr => ((RS1.iff r).mp (.inr hr)).1
          have hall : (ord ++ hvs.map (kpt pt) ++ rs).length ≤ n := nodup_lt RS1.nod fun q hq => by
            rcases List.mem_append.mp hq with h | h
            · rcases List.mem_append.mp h with h | h
              · exact RS1.ordn q h
              · exact ((RS1.iff q).mp (.inl h)).1
            · exact hrn q h
          simp at hall
          walk_at "m"
          refine meth_at hB S I.hx hdx rfl rfl rfl (fun _ _ _ _ _ _ _ _ => rfl) ?_
          walk_at "m"
          refine act_spec hB (R'.less (by (clear hall hkv hal hkl hcl; omega))) S I (by (clear hcl hkl hal hkv; omega)) fun s S => ?_
          walk_at "m"
          have hact : (decide ((ord.length : Int) < (ord.length : Int) + hvs.length) || !rs.isEmpty) = decide (hvs ≠ [] ∨ rs ≠ []) := by
            rw [Bool.eq_iff_iff]
            cases hvs <;> cases rs <;> simp
            (clear hall hkv hal hn hkl hcl; omega)
          rw [hact]
          by_cases hc : hvs ≠ [] ∨ rs ≠ []
          · refine ite_t (by simpa using hc) ?_
            walk_at "m"
            refine for_jx (τ := Addr × List Value) rs.length (fun i v => ∃ t : Tok, ∃ r : Nat, rs[i]? = some r ∧ v = .int (r : Nat) t) (fun y => needT y.1 y.2) (RuE w σ ca ka ha oa n a1 nodes par ks hvs ovs ord rs np pt) S ?_ ?_ ?_ ?_ (by with_unfolding_all (intro _; rfl))
            · walk_at "m"
              refine meth_at hB S I.hx hdx rfl rfl rfl (fun _ _ _ _ _ _ _ _ => rfl) ?_
              walk_at "m"
              refine ready_spec hB (R'.less (by (clear hall hkv hal hkl hcl; omega))) S I (fun r hr => (hmem r).mpr (hrn r hr)) (by (clear hcl hkl hal hkv; omega)) fun D vs σ2 s hD hDv hvi I2 S => ?_
              walk_at "m"
              have hl : vs.length = rs.length := by rw [hvi.1]; simp
              refine iter_tuple R'.handled S hDv fun it s rd => ⟨(D, vs), _, _, ?_, _, hvs, pt, l4, rfl, { J with ext := ?_, heap := ?_, pv := ?_, order := ?_ }, ?_, ?_, I2⟩
              · rw [hl] at rd
                refine rd.imp fun i v _ hv => ?_
                obtain ⟨k', t, h1, rfl⟩ := hvi.at hv
                simp at h1
                obtain ⟨r, h1, rfl⟩ := h1
                exact ⟨t, r, h1, rfl⟩
              · exact J.ext.upd (J.ext.none (I.ext.none hD))
              · exact Ext.rfl.upd (I.ext.none hD) _ _ J.heap
              · exact fun v hv => (J.pv v hv).ext (Ext.rfl.upd (I.ext.none hD))
              · exact Ext.rfl.upd (I.ext.none hD) _ _ J.order
              · exact upd_self
              · simp
            · rintro y i l' σ'' ⟨σ₂, hvs', pt', l4', rfl, J', hy, hperm, I2⟩
              exact I2.ext _ _ hy
            · rintro ⟨D, vs⟩ i v l' σ'' φ'' s hi ⟨tr, r, hr, rfl⟩ ⟨σ₂, hvs', pt', l4', rfl, J', hy, hperm, I2⟩ S
              have hrn' := hrn r (List.mem_of_getElem? hr)
              have hkr : kl[r]? = some (ks r) := by rw [← hks]; simp [List.getD_eq_getElem?_getD, List.getElem?_eq_getElem (show r < kl.length by (clear hal hkv hi hall hcl; omega))]
              obtain ⟨tk, htk⟩ := hki.get hkr
              have hk2 := I2.ext _ _ (J'.ext _ _ hk)
              walk_at "m"
              refine item_n S hk2 (by (clear hcl hkl hal hi hall; omega)) htk ?_
              walk_at "m"
              refine newTuple_l S (by simp [sizeLine_eq]) fun t s ht S => ?_
              walk_at "m"
              have ht2 : σ₂ t = none := I2.ext.none ht
              have hta : ha ≠ t := (by first | exact ne_sn J'.heap ht2 | exact ne_ns J'.heap ht2 | exact ne_sn ht2 J'.heap | exact ne_ns ht2 J'.heap)
              have I3 := I2.own (P := IsTp [.int (ks r) tk, .int (r : Nat) tr]) ht
              have hh1 : upd σ₂ t (IsTp [.int (ks r) tk, .int (r : Nat) tr]) ha = some (IsL hvs') := by rw [upd_ne hta]; exact J'.heap
              have hpl := hperm.length_eq
              simp at hpl
              have hmn : min i rs.length ≤ rs.length := Nat.min_le_right _ _
              refine tp_push (ks := ks) (pt := fun b => if b = t then r else pt' b) hB (R'.less (by (clear hmn hpl hrn' hi hall hkv hal hkl hcl; omega))) S (a := ha) (vs := hvs') (x := .ref t) (I3.ext _ _ hh1) (fun v hv => ?_) (J'.hf.congr fun x hx y hy => ?_) (by (clear hcl hkl hal hkv hrn'; omega)) fun hvs2 s hh2 hp2 S => ?_
              · rcases List.mem_append.mp hv with c | c
                · exact ((J'.pv v c).new ht2 r).1.ext I3.ext
                · simp at c; subst c; exact ⟨t, tk, tr, rfl, by simp [upd_self]⟩
              · unfold ltP
                rw [((J'.pv x hx).new (P := IsTp []) ht2 r).2, ((J'.pv y hy).new (P := IsTp []) ht2 r).2]
              have I4 := I3.put (P' := IsL hvs2) hh1
              obtain ⟨J2, hperm2⟩ := J'.push (u := tk) (u' := tr) hha0 hao ht2 hh2 hp2
              refine ⟨rfl, ?_⟩
              walk_at "m"
              refine ⟨_, _, ⟨_, hvs2, _, _, rfl, J2, ?_, ?_, I4⟩, S⟩
              · show upd _ ha _ D = _
                rw [upd_ne (fun c => by rw [c, J'.heap] at hy; exact isL_tp hy), upd_ne ((by first | exact ne_sn hy ht2 | exact ne_ns hy ht2 | exact ne_sn ht2 hy | exact ne_ns ht2 hy))]; exact hy
              · refine hperm2.trans ?_
                rw [List.take_add_one, hr, ← List.append_assoc]
                exact hperm.append_right _
            · rintro ⟨D, vs⟩ l' σ'' s ⟨σ₂, hvs', pt', l4', rfl, J', hy, hperm, I2⟩ S
              rw [List.take_length] at hperm
              have RS2 := RS1.ready hperm
              walk_at "m"
              have hpl := hperm.length_eq
              simp at hpl
              have hpos : 0 < hvs.length + rs.length := by
                rcases hc with c | c
                · have := List.length_pos_iff.mpr c; (clear hpl hall hkv hal hn hkl hcl; omega)
                · have := List.length_pos_iff.mpr c; (clear hpl hall hkv hal hn hkl hcl; omega)
              have hne : hvs' ≠ [] := fun c => by rw [c] at hpl; simp at hpl; (clear hall hkv hal hn hkl hcl; omega)
              refine tp_pop (ks := ks) (pt := pt') hB (R'.less (by (clear hpos hpl hall hkv hal hkl hcl; omega))) S (I2.ext _ _ J'.heap) (fun v hv => (J'.pv v hv).ext I2.ext) J'.hf (by (clear hcl hkl hal hkv; omega)) hne fun x vs2 s hh2 hp2 hmin S => ?_
              have I3 := I2.put (P' := IsL vs2) J'.heap
              have hxm : x ∈ hvs' := hp2.mem_iff.mp (.head _)
              obtain ⟨tt, u, u', rfl, ht⟩ := J'.pv x hxm
              have ht3 : upd σ₂ ha (IsL vs2) tt = some (IsTp [.int (ks (pt' tt)) u, .int (pt' tt : Nat) u']) := by rw [upd_ne (fun c => by rw [c, J'.heap] at ht; exact isL_tp ht)]; exact ht
              have ho3 : upd σ₂ ha (IsL vs2) oa = some (IsL ovs) := by rw [upd_ne (Ne.symm hao)]; exact J'.order
              have hpm : pt' tt ∈ hvs'.map (kpt pt') := List.mem_map.mpr ⟨_, hxm, rfl⟩
              have hfree : Free par n ord (pt' tt) := (RS2.iff _).mp (.inl hpm)
              have hpl2 := hp2.length_eq
              simp at hpl2
              walk_at "m"
              refine item_t S (I3.ext _ _ ht3) (by decide) (by decide) rfl ?_
              obtain ⟨t3', t4', hdx3⟩ := I3.hdx
              walk_at "m"
              refine meth_at hB S I3.hx hdx3 rfl rfl rfl (fun _ _ _ _ _ _ _ _ => rfl) ?_
              walk_at "m"
              refine done_spec hB (R'.less (by (clear hpl2 hpos hpl hall hkv hal hkl hcl; omega))) S I3 (p := pt' tt) ((hmem _).mpr hfree.1) (RS2.nph _ hpm) (by cases par (pt' tt) <;> simp) (fun r hr => ?_) (by simp) fun σ4 s I4 S => ⟨rfl, ?_⟩
              · have h2 : par (pt' tt) = some r := by simpa using hr
                have := hpar _ r hfree.1 h2
                exact ⟨(hmem r).mpr this.2, by (clear hpl2 hpos hpl hall hkv hal hkl hcl; omega)⟩
              walk_at "m"
              refine method_l S (I4.ext _ _ ho3) PySem.F.slot_list_append PySem.F.type_list_append ?_
              walk_at "m"
              have hol : ovs.length = ord.length := by rw [J'.oi.1]; simp
              refine append_l S (I4.ext _ _ ho3) (by rw [sizeLine_eq]; (clear hcl hkl hal hkv hpl hpos hpl2; omega)) fun s S => ⟨rfl, ?_⟩
              walk_at "m"
              have I5 := I4.put (P' := IsL (ovs ++ [.int (pt' tt : Nat) u'])) ho3
              have ecnt : (ord.length : Int) + hvs.length + rs.length = ((ord ++ [pt' tt]).length : Nat) + (vs2.length : Nat) := by simp; (clear hol hall hkv hal hn hkl hcl; omega)
              have ecnt2 : (ord.length : Int) + 1 = ((ord ++ [pt' tt]).length : Nat) := by simp
              rw [ecnt, ecnt2] at I5
              refine ⟨n - (ord ++ [pt' tt]).length, _, _, by simp; (clear hkl hal hkv hpl hpl2 hol ecnt ecnt2 hcl; omega), ⟨_, ord ++ [pt' tt], vs2, ovs ++ [.int (pt' tt : Nat) u'], _, _, pt', _, rfl, rfl, { ext := ?_, heap := ?_, pv := ?_, hf := hh2, order := upd_self, oi := ?_ }, PK.snoc ⟨hfree, fun q hq => ?_⟩, RS2.done hpar (show (hvs'.map (kpt pt')).Perm (pt' tt :: vs2.map (kpt pt')) from hp2.symm.map (kpt pt')), I5⟩, S⟩
              · exact (J'.ext.upd hha0).upd hoa0
              · rw [upd_ne hao, upd_self]
              · intro v hv
                exact ((J'.pv v (hp2.mem_iff.mp (.tail _ hv))).put J'.heap).put ho3
              · simp only [zi, List.map_append, List.map_cons, List.map_nil]
                exact J'.oi.snoc _ _
              · have := (RS2.iff q).mpr hq
                simp only [List.not_mem_nil, or_false] at this
                obtain ⟨v, hv, rfl⟩ := List.mem_map.mp this
                exact hmin v hv
          · refine ite_f (by simpa using hc) ?_
            have h1 : hvs = [] := Classical.byContradiction fun c => hc (.inl c)
            have h2 : rs = [] := Classical.byContradiction fun c => hc (.inr c)
            subst h1 h2
            exact ⟨_, _, ⟨ord, ovs, np, _, rfl, J.ext.trans I.ext, I.ext _ _ J.order, J.oi, PK, RS1⟩, S⟩
        · rintro l' σ' s ⟨ord, ovs, np, l4, rfl, h1, h2, h3, h4, h5⟩ S
          walk_at "m"
          have hnd : ord.Nodup := by have := h5.nod; simpa using this
          have hle := nodup_lt hnd h5.ordn
          have hge : n ≤ ord.length := by
            have := nodup_sub (l := List.range n) (l' := ord) List.nodup_range fun q hq => h5.all hpar q (List.mem_range.mp hq)
            simpa using this
          exact ⟨_, _, S, fun s S => k _ _ _ _ s h1 h2 h3 (by rw [hks]; exact h4) (by (clear hal hkv hcl; omega)) hnd h5.ordn S⟩
  · intro v σ' s'' h S''; exact h s'' S''
end
end
section
open PySem PySem.W PyProof.Rows
section
variable {w : World} {B : Heap} {A : Around} {L : Addr} {N : List (Str × Option Addr)} {l : List (Option Value)} {σ : Own} {φ : Frz} {s₀ s : Shared} {E : Value → Shared → Prop} {env : Env}
noncomputable def fre (par : Nat → Option Nat) (lf : List Nat) (q : Nat) : Bool := !(lf.any fun c => decide (par c = some q))
theorem list_least : ∀ (l : List Nat), l ≠ [] → ∃ q ∈ l, ∀ c ∈ l, q ≤ c
  | [], h => absurd rfl h
  | [a], _ => ⟨a, .head _, fun c hc => by simp at hc; omega⟩
  | a :: b :: r, _ => by
    obtain ⟨q, h1, h2⟩ := list_least (b :: r) (by simp)
    by_cases c : a ≤ q
    · refine ⟨a, .head _, fun x hx => ?_⟩
      rcases List.mem_cons.mp hx with e | e
      · omega
      · have := h2 x e; omega
    · refine ⟨q, .tail _ h1, fun x hx => ?_⟩
      rcases List.mem_cons.mp hx with e | e
      · omega
      · exact h2 x e
inductive PlA (σ : Own) (ca ka la oa : Addr) (n : Nat) (par : Nat → Option Nat) (ks : Nat → Int) (m : Nat) (l' : List (Option Value)) (σ' : Own) : Prop
  | mk (ord lf : List Nat) (lvs ovs : List Value) (l5 l6 : Option Value) (h1 : m = n - ord.length) (h2 : l' = [some (.ref ca), some (.ref ka), some (.ref la), some (.ref oa), l5, l6]) (h3 : Ext σ σ') (h4 : σ' la = some (IsL lvs)) (h5 : Ints lvs (zi lf)) (h6 : lf.Nodup) (h7 : (∀ q, q ∈ lf ↔ q < n ∧ q ∉ ord)) (h8 : lf.length + ord.length = n) (h9 : σ' oa = some (IsL ovs)) (h10 : Ints ovs (zi ord)) (h11 : Picks par ks n ord) : PlA σ ca ka la oa n par ks m l' σ'
inductive PlB (σ : Own) (ca ka la oa : Addr) (n : Nat) (par : Nat → Option Nat) (ks : Nat → Int) (l' : List (Option Value)) (σ' : Own) : Prop
  | mk (ord : List Nat) (ovs : List Value) (l5 l6 : Option Value) (h1 : l' = [some (.ref ca), some (.ref ka), some (.ref la), some (.ref oa), l5, l6]) (h2 : Ext σ σ') (h3 : σ' oa = some (IsL ovs)) (h4 : Ints ovs (zi ord)) (h5 : Picks par ks n ord) (h6 : ord.length = n) : PlB σ ca ka la oa n par ks l' σ'
theorem plain_spec (hB : Base w B) (R : Rm A 6) (S : St B L N l σ φ s₀ s) {ca ka : Addr} {ads : List Addr} {css : List (List Int)} {kv : List Value} {kl : List Int} {n : Nat} {par : Nat → Option Nat}
  (hC : Cols σ ca ads css) (hcl : css.length = n) (hk : σ ka = some (IsL kv)) (hki : Ints kv kl) (hkl : kl.length = n) (hn : n < 100) (hpar : ∀ p q, p < n → par p = some q → p < q ∧ q < n) (hc1 : ∀ p, p < n → par p = none → css[p]? = some []) (hc2 : ∀ p q, p < n → par p = some q → ∃ r, css[p]? = some ((q : Int) :: r)) (hcb : ∀ (p : Nat) (cs : List Int), css[p]? = some cs → cs.length ≤ 1000) {Q : Value → Shared → Prop}
  (k : ∀ σ' oa ovs ord s', Ext σ σ' → σ' oa = some (IsL ovs) → Ints ovs (zi ord) → Picks par (fun p => kl.getD p 0) n ord → ord.length = n → St B L N l σ' φ s₀ s' → Q (.ref oa) s') :
  wpAny (model PR w) A (call (.ref 203) [.ref ca, .ref ka]) Q E s := by
  refine call_st [(nm "columns", true), (nm "keys", true), (nm "left", true), (nm "order", false), (nm "point", false), (nm "free", false)] [some (.ref ca), some (.ref ka), none, none, none, none]
    [(nm "list", .type "list"), (nm "range", .type "range"), (nm "len", .builtin "len"), (nm "min", .builtin "min")]
    (fun v σ' => ∀ s, St B L N l σ' φ s₀ s → Q v s)
    S (by have := R.depth; omega) hB.lim (hB.globs rfl) (hB.X _ _ rfl) rfl (codeRec_of hB.X rfl) rfl rfl rfl rfl rfl (cells_mix rfl) (some_cells rfl) (by decide) rfl (by walk_at "init") ?_ ?_
  · intro env A' L' κ φ' s' hκ e eG dA S'
    have R' := R.deeper dA
    dsimp only [List.map] at S' e ⊢
    dsimp only [cond] at S' e ⊢
    have hκ1 : κ (nm "columns") ≠ none := hκ (nm "columns", true) (by simp) rfl
    have hκ2 : κ (nm "keys") ≠ none := hκ (nm "keys", true) (by simp) rfl
    have hκ3 : κ (nm "left") ≠ none := hκ (nm "left", true) (by simp) rfl
    have hal : ads.length = n := hC.len.trans hcl
    have hkv : kv.length = n := by rw [hki.1, hkl]
    obtain ⟨ks, hks⟩ : ∃ ks : Nat → Int, (fun p => kl.getD p 0) = ks := ⟨_, rfl⟩
    walk_at "m"
    refine len_l S' hC.top (by simp [hal]; (clear hcl hkl hal hkv; omega)) fun t s S => ?_
    walk_at "m"
    rw [List.length_map, hal]
    refine range_1 S fun r s hr S => ?_
    walk_at "m"
    refine lrange_l R'.handled S hr (by (clear hcl hkl hal hkv; omega)) fun la lvs0 s hla hl0 S => ?_
    walk_at "m"
    refine newList_l S (by simp) fun oa s hoa S => ?_
    have hlo : la ≠ oa := (by first | exact ne_sn hoa upd_self | exact ne_ns hoa upd_self | exact ne_sn upd_self hoa | exact ne_ns upd_self hoa)
    have hoa0 : σ oa = none := by rwa [upd_ne (Ne.symm hlo)] at hoa
    walk_at "m"
    refine while_q (PlA σ ca ka la oa n par ks)
      (PlB σ ca ka la oa n par ks)
      n S ⟨[], List.range n, lvs0, [], none, none, by simp, rfl, (Ext.rfl.upd hla).upd hoa0, by rw [upd_ne hlo, upd_self], hl0, List.nodup_range, by simp, by simp, upd_self, Ints.nil, fun i p h => by simp at h⟩ ?_ ?_
    · clear S hl0
      rintro m l' σ' s ⟨ord, lf, lvs, ovs, l5, l6, rfl, rfl, hext, hlv, hli, hlnd, hlf, hlen, hov, hoi, PK⟩ S
      have hll : lvs.length = lf.length := by rw [hli.1]; simp
      walk_at "m"
      refine newList_l S (by decide) fun b s hb S => ?_
      have ext1 := Ext.rfl.upd (σ := σ') (P := IsL []) hb
      walk_at "m"
      refine ne_i (R'.less (by (clear hll hlen hkv hal hkl hcl; omega))) S (ext1 _ _ hlv) hli upd_self Ints.nil ?_
      walk_at "m"
      by_cases hc : lf = []
      · refine ite_f (by simp [hc]) ?_
        subst hc
        refine ⟨_, _, ⟨ord, ovs, _, _, rfl, hext.trans ext1, ext1 _ _ hov, hoi, PK, by simpa using hlen⟩, S⟩
      · refine ite_t (by simpa using hc) ?_
        walk_at "m"
        have hext1 := hext.trans ext1
        have hlv1 := ext1 _ _ hlv
        have hov1 := ext1 _ _ hov
        obtain ⟨σ1, S1, hext1, hlv1, hov1⟩ : ∃ σ1, St B L' _ _ σ1 _ s₀ s ∧ Ext σ σ1 ∧ σ1 la = some (IsL lvs) ∧ σ1 oa = some (IsL ovs) := ⟨_, S, hext1, hlv1, hov1⟩
        clear S ext1 hb hext hlv hov
        have S := S1
        have hC1 := hC.ext hext1
        have hln : lf.length ≤ n := by (clear hal hkv hcl; omega)
        refine comp_set_j1 lvs.length (fun i v => lvs[i]? = some v) (needL la lvs) (fun i ys σ2 => Ext σ1 σ2 ∧ Ints ys (zi ((lf.take i).filter (fre par lf)))) (nm "point") [(nm "columns", .ref ca), (nm "left", .ref la)] [] []
          (fun D => [some (.ref ca), some (.ref ka), some (.ref la), some (.ref oa), l5, some (.ref D)])
          S e (envF_nil e) (compOk1_of rfl eG (fun _ h => nomatch h) ?_ (fun _ _ => rfl) (fun _ => rfl)) ?_ (fun _ _ _ h => h.1 _ _ hlv1) (by rw [sizeLine_eq]; (clear hcl hkl hal hkv; omega)) ?_ ?_ (fun D => by walk_at "sv") ?_ (swaps_yes e (by walk_at "mm") rfl rfl) (fun _ _ => rfl) (by with_unfolding_all (intro _; rfl))
        · intro q hq
          simp at hq
          rcases hq with rfl | rfl
          · exact .inl ⟨_, hκ1, by walk_at "gv"⟩
          · exact .inl ⟨_, hκ3, by walk_at "gv"⟩
        · walk_at "m"
          exact iter_list R'.handled S hlv1 fun it s rd => ⟨σ1, rd, Ext.rfl, by simpa using Ints.nil⟩
        · rintro i ys σ2 ⟨_, h⟩
          rw [h.1]; simp
          exact Nat.le_trans (List.length_filter_le _ _) (by simp; (clear hll hln hlen hkv hal hn hkl hcl; omega))
        · rintro i v ys σ2 cenv C cc φ'' s hi hP ⟨hext2, hys⟩ e' eF' eG' S
          obtain ⟨q, tq, hq0, rfl⟩ : ∃ (q : Nat) (tq : Tok), lf[i]? = some q ∧ v = .int (q : Nat) tq := by
            obtain ⟨k', tq, h1, h2⟩ := hli.at hP
            simp at h1
            obtain ⟨q, h1, rfl⟩ := h1
            exact ⟨q, tq, h1, h2⟩
          have hlv2 := hext2 _ _ hlv1
          have hC2 := hC1.ext hext2
          walk_at "m"
          refine comp_j lvs.length (fun i v => lvs[i]? = some v) (needL la lvs) (fun j zs σ3 => Ext σ2 σ3 ∧ Ints zs (zi ((lf.take j).filter fun c => decide (par c = some q)))) [nm "one"] [(nm "columns", .ref ca), (nm "point", .int (q : Nat) tq)] [(nm "columns", .ref ca), (nm "left", .ref la)] []
            S e' eF' (compOk_of rfl eG' (fun _ h => nomatch h) ?_) ?_ (fun _ _ _ h => h.1 _ _ hlv2) (by rw [sizeLine_eq]; (clear hcl hkl hal hkv; omega)) ?_ ?_ ?_ (fun _ _ => rfl) (by with_unfolding_all (intro _; rfl))
          · intro p hp
            simp at hp
            rcases hp with rfl | rfl
            · exact .inr (by simp)
            · exact .inl ⟨some cc, (by simp), by walk_at "gv"⟩
          · walk_at "m"
            exact iter_list R'.handled S hlv2 fun it s rd => ⟨σ2, rd, Ext.rfl, by simpa using Ints.nil⟩
          · rintro j zs σ3 ⟨_, h⟩
            rw [h.1]; simp
            exact Nat.le_trans (List.length_filter_le _ _) (by simp; (clear hll hi hln hlen hkv hal hn hkl hcl; omega))
          · rintro j v zs σ3 cenv2 C2 φ3 s hj hP2 ⟨hext3, hzs⟩ e2 eF2 eG2 S
            dsimp only [List.map] at S e2 ⊢
            obtain ⟨c, tc, hc0, rfl⟩ : ∃ (c : Nat) (tc : Tok), lf[j]? = some c ∧ v = .int (c : Nat) tc := by
              obtain ⟨k', tc, h1, h2⟩ := hli.at hP2
              simp at h1
              obtain ⟨c, h1, rfl⟩ := h1
              exact ⟨c, tc, h1, h2⟩
            have hcn : c < n := ((hlf c).mp (List.mem_of_getElem? hc0)).1
            have hC3 := hC2.ext hext3
            obtain ⟨ac, hac⟩ : ∃ ac, ads[c]? = some ac := ⟨ads[c]'(by (clear hkl hkv hlen hll hj hi hln hcl; omega)), List.getElem?_eq_getElem _⟩
            obtain ⟨cs, hcs⟩ : ∃ cs, css[c]? = some cs := ⟨css[c]'(by (clear hkl hal hkv hlen hll hj hi hln; omega)), List.getElem?_eq_getElem _⟩
            obtain ⟨cv, hcv, hcvi⟩ := hC3.col c ac cs hac hcs
            have hcvl : cv.length ≤ 1000 := by rw [hcvi.1]; exact hcb c cs hcs
            have hcq : cs.take 1 = [(q : Int)] ↔ par c = some q := by
              cases hp : par c with
              | none => have := hc1 c hcn hp; rw [hcs] at this; cases this; simp
              | some q' =>
                obtain ⟨r, hr⟩ := hc2 c q' hcn hp
                rw [hcs] at hr; cases hr
                simp; (clear hcvl hcn hj hi hln hll hlen hkv hal hn hkl hcl; omega)
            have ef : (lf.take (j + 1)).filter (fun c => decide (par c = some q)) = (lf.take j).filter (fun c => decide (par c = some q)) ++ (if par c = some q then [c] else []) := by
              rw [List.take_add_one, hc0, List.filter_append]; simp [List.filter_cons]
            walk_at "m"
            refine item_n S hC3.top (by simp [hal]; (clear hcl hkl hal hkv hlen hll hcn hj hi hln; omega)) (by rw [List.getElem?_map, hac]; rfl) ?_
            walk_at "m"
            intro sl s hsl S
            refine cut_l S hsl hcv .none (.int 1 _) .none (by intro c; cases c) (by rw [sizeLine_eq]; (clear hcn hj hi hln hll hlen hkv hal hkl hcl; omega)) (fun sb s hsb S => ?_) (by with_unfolding_all rfl)
            have esl : (slicePick cv.toArray none (some 1) none).toList = cv.take 1 := slice_upto cv 1
            rw [esl] at S
            walk_at "m"
            refine newList_l S (by simp [sizeLine_eq]) fun nb s hnb S => ?_
            have hsnb : sb ≠ nb := (by first | exact ne_sn hnb upd_self | exact ne_ns hnb upd_self | exact ne_sn upd_self hnb | exact ne_ns upd_self hnb)
            have ext4 : Ext σ3 (upd (upd σ3 sb (IsL (cv.take 1))) nb (IsL [.int (q : Nat) tq])) := (Ext.rfl.upd hsb).upd (by rwa [upd_ne (Ne.symm hsnb)] at hnb)
            walk_at "m"
            refine eq_i (R'.less (by (clear hcvl hcn hj hi hln hll hlen hkv hal hkl hcl; omega))) S (by rw [upd_ne hsnb, upd_self]) (hcvi.take 1) upd_self (Ints.nil.snoc _ _) ?_
            walk_at "m"
            by_cases hpc : par c = some q
            · refine ite_t (by simpa using hcq.mpr hpc) ?_
              walk_at "m"
              refine ⟨_, _, ⟨hext3.trans ext4, ?_⟩, S⟩
              rw [ef, if_pos hpc]
              simp only [zi, List.map_append, List.map_cons, List.map_nil]
              exact hzs.snoc _ _
            · refine ite_f (by simpa using fun c => hpc (hcq.mp c)) ?_
              refine ⟨_, _, ⟨hext3.trans ext4, ?_⟩, S⟩
              rw [ef, if_neg hpc]
              simpa using hzs
          · rintro D zs σ3 s ⟨hext3, hzs⟩ hD S
            have hfr : (zi (lf.filter fun c => decide (par c = some q)) = []) ↔ fre par lf q = true := by
              unfold fre
              simp
            have ef : (lf.take (i + 1)).filter (fre par lf) = (lf.take i).filter (fre par lf) ++ (if fre par lf q = true then [q] else []) := by
              rw [List.take_add_one, hq0, List.filter_append]; simp [List.filter_cons]
            rw [hll, List.take_length] at hzs
            walk_at "m"
            refine newList_l S (by simp) fun nb s hnb S => ?_
            have hsnb : D ≠ nb := (by first | exact ne_sn hnb upd_self | exact ne_ns hnb upd_self | exact ne_sn upd_self hnb | exact ne_ns upd_self hnb)
            have ext4 : Ext σ3 (upd (upd σ3 D (IsL zs)) nb (IsL [])) := (Ext.rfl.upd hD).upd (by rwa [upd_ne (Ne.symm hsnb)] at hnb)
            walk_at "m"
            refine eq_i (R'.less (by (clear hi hln hll hlen hkv hal hkl hcl; omega))) S (by rw [upd_ne hsnb, upd_self]) hzs upd_self Ints.nil ?_
            walk_at "m"
            by_cases hpc : fre par lf q = true
            · refine ite_t (by simpa using hfr.mpr hpc) ?_
              walk_at "m"
              refine ⟨_, _, ⟨hext2.trans (hext3.trans ext4), ?_⟩, S⟩
              rw [ef, if_pos hpc]
              simp only [zi, List.map_append, List.map_cons, List.map_nil]
              exact hys.snoc _ _
            · refine ite_f (by simpa using fun c => hpc (hfr.mp c)) ?_
              refine ⟨_, _, ⟨hext2.trans (hext3.trans ext4), ?_⟩, S⟩
              rw [ef, if_neg hpc]
              simpa using hys
        · rintro fa fvs σ2 s ⟨hext2, hfi⟩ hfa S
          rw [hll, List.take_length] at hfi
          obtain ⟨fs, hfs, hfi⟩ : ∃ fs, lf.filter (fre par lf) = fs ∧ Ints fvs (zi fs) := ⟨_, rfl, hfi⟩
          have hfl : fvs.length = fs.length := by rw [hfi.1]; simp
          have hfn : fs.length ≤ lf.length := by rw [← hfs]; exact List.length_filter_le _ _
          have ext3 := hext2.trans (Ext.rfl.upd (P := IsL fvs) hfa)
          have hfs2 : ∀ q, q ∈ fs ↔ Free par n ord q := fun q => by
            rw [← hfs, List.mem_filter, hlf q]
            unfold fre Free
            simp
            constructor
            · rintro ⟨⟨h1, h2⟩, h3⟩
              exact ⟨h1, h2, fun c hc e => Classical.byContradiction fun hco => h3 c ((hlf c).mpr ⟨hc, hco⟩) e⟩
            · rintro ⟨h1, h2, h3⟩
              exact ⟨⟨h1, h2⟩, fun c hc e => ((hlf c).mp hc).2 (h3 c ((hlf c).mp hc).1 e)⟩
          walk_at "m"
          refine comp_j fvs.length (fun i v => fvs[i]? = some v) (needL fa fvs) (fun i ys σ3 => Ext (upd σ2 fa (IsL fvs)) σ3 ∧ ∃ pt : Addr → Nat, ys.map (kpt pt) = fs.take i ∧ ∀ v ∈ ys, PV σ3 ks pt v) [nm "one"] [(nm "keys", .ref ka)] [] []
            S e (envF_nil e) (compOk_of rfl eG (fun _ h => nomatch h) ?_) ?_ (fun _ _ _ h => h.1 _ _ upd_self) (by rw [sizeLine_eq]; (clear hcl hkl hal hkv hll; omega)) ?_ ?_ ?_ (fun _ _ => rfl) (by with_unfolding_all (intro _; rfl))
          · intro p hp
            simp at hp
            subst hp
            exact .inl ⟨_, hκ2, by walk_at "gv"⟩
          · walk_at "m"
            exact iter_list R'.handled S upd_self fun it s rd => ⟨_, rd, Ext.rfl, fun _ => 0, by simp, by simp⟩
          · rintro i ys σ3 ⟨_, pt, h, _⟩
            have := congrArg List.length h
            simp at this
            (clear hfn hfl hln hll hlen hkv hal hn hkl hcl; omega)
          · rintro i v ys σ3 cenv C φ'' s hi hP ⟨hext3, pt, hys, hpv⟩ e' eF' eG' S
            dsimp only [List.map] at S e' ⊢
            obtain ⟨q, tq, hq0, rfl⟩ : ∃ (q : Nat) (tq : Tok), fs[i]? = some q ∧ v = .int (q : Nat) tq := by
              obtain ⟨k', tq, h1, h2⟩ := hfi.at hP
              simp at h1
              obtain ⟨q, h1, rfl⟩ := h1
              exact ⟨q, tq, h1, h2⟩
            have hqn : q < n := ((hfs2 q).mp (List.mem_of_getElem? hq0)).1
            have hkr : kl[q]? = some (ks q) := by rw [← hks]; simp [List.getD_eq_getElem?_getD, List.getElem?_eq_getElem (show q < kl.length by (clear hal hkv hlen hll hi hfn hfl hln hcl; omega))]
            obtain ⟨tk, htk⟩ := hki.get hkr
            walk_at "m"
            walk_at "m"
            refine item_n S (hext3 _ _ (ext3 _ _ (hext1 _ _ hk))) (by (clear hcl hkl hal hlen hll hi hfn hfl hln; omega)) htk ?_
            walk_at "m"
            refine newTuple_l S (by simp [sizeLine_eq]) fun tp s htp S => ?_
            walk_at "m"
            refine ⟨_, _, ⟨hext3.upd (hext3.none htp), fun b => if b = tp then q else pt b, ?_, fun v hv => ?_⟩, S⟩
            · rw [List.map_append, List.take_add_one, hq0, ← hys]
              congr 1
              · exact List.map_congr_left fun v hv => ((hpv v hv).new (P := IsTp []) htp q).2
              · simp [kpt]
            · rcases List.mem_append.mp hv with c | c
              · exact ((hpv v c).new htp q).1
              · simp at c; subst c; exact ⟨tp, tk, tq, rfl, by simp [upd_self]⟩
          · rintro D ys σ3 s ⟨hext3, pt, hys, hpv⟩ hD S
            rw [hfl, List.take_length] at hys
            have hne : ys ≠ [] := by
              obtain ⟨q, hq, hmn⟩ := list_least lf hc
              have hqf : q ∈ fs := by
                rw [← hfs, List.mem_filter]
                refine ⟨hq, ?_⟩
                unfold fre
                simp
                intro c hc0 e0
                have h1 := hmn c hc0
                have h2 := hpar c q ((hlf c).mp hc0).1 e0
                (clear hfn hfl hln hll hlen hkv hal hn hkl hcl; omega)
              intro c0
              rw [c0] at hys
              rw [← hys] at hqf
              simp at hqf
            walk_at "m"
            refine min_l (lt := ltP ks pt) (R'.less (by (clear hfn hfl hln hll hlen hkv hal hkl hcl; omega))) S upd_self hne swo_ltP (fun σ' hx v hv u hu => ?_) fun x s hx hmin S => ?_
            · obtain ⟨t1, u1, w1, rfl, e1⟩ := hpv v hv
              obtain ⟨t2, u2, w2, rfl, e2⟩ := hpv u hu
              exact CmpOk.pair (hx _ _ (upd_none hD e1)) (hx _ _ (upd_none hD e2))
            obtain ⟨tt, u, u', rfl, htt⟩ := hpv x hx
            have ext4 : Ext σ1 (upd σ3 D (IsL ys)) := (ext3.trans hext3).trans (Ext.rfl.upd hD)
            have hpm : pt tt ∈ fs := by rw [← hys]; exact List.mem_map.mpr ⟨_, hx, rfl⟩
            have hfree := (hfs2 _).mp hpm
            have hpl : pt tt ∈ lf := (hlf _).mpr ⟨hfree.1, hfree.2.1⟩
            have hlv4 := ext4 _ _ hlv1
            have hov4 := ext4 _ _ hov1
            walk_at "m"
            refine item_t S (upd_none hD htt) (by decide) (by decide) rfl ?_
            walk_at "m"
            refine method_l S hlv4 PySem.F.slot_list_remove PySem.F.type_list_remove ?_
            walk_at "m"
            refine remove_l S hlv4 hli hpl (by (clear hcl hkl hal hkv hfl; omega)) fun lvs' s hli' S => ⟨rfl, ?_⟩
            walk_at "m"
            have hov5 : upd (upd σ3 D (IsL ys)) la (IsL lvs') oa = some (IsL ovs) := by rw [upd_ne (Ne.symm hlo)]; exact hov4
            refine method_l S hov5 PySem.F.slot_list_append PySem.F.type_list_append ?_
            walk_at "m"
            have hol : ovs.length = ord.length := by rw [hoi.1]; simp
            refine append_l S hov5 (by rw [sizeLine_eq]; (clear hcl hkl hal hkv hll hfl hfn; omega)) fun s S => ⟨rfl, ?_⟩
            walk_at "m"
            have hlp := List.length_pos_of_mem hpl
            refine ⟨n - (ord ++ [pt tt]).length, _, _, by simp; (clear hkl hal hkv hll hol hfn hfl hn hcl; omega), ⟨ord ++ [pt tt], lf.erase (pt tt), lvs', ovs ++ [.int (pt tt : Nat) u'], _, _, rfl, rfl, ((hext1.trans ext4).upd hla).upd hoa0, ?_, hli', hlnd.erase _, fun q => ?_, ?_, upd_self, ?_, PK.snoc ⟨hfree, fun q hq => ?_⟩⟩, S⟩
            · rw [upd_ne hlo, upd_self]
            · rw [hlnd.mem_erase_iff, hlf q]
              simp
              constructor
              · rintro ⟨h1, h2, h3⟩; exact ⟨h2, h3, h1⟩
              · rintro ⟨h1, h2, h3⟩; exact ⟨h3, h1, h2⟩
            · rw [List.length_erase_of_mem hpl]; simp; (clear hkl hal hkv hll hol hfn hfl hcl; omega)
            · simp only [zi, List.map_append, List.map_cons, List.map_nil]
              exact hoi.snoc _ _
            · have := (hfs2 q).mpr hq
              rw [← hys] at this
              obtain ⟨v, hv, rfl⟩ := List.mem_map.mp this
              exact hmin v hv
    · rintro l' σ' s ⟨ord, ovs, l5, l6, rfl, h1, h2, h3, h4, h5⟩ S
      walk_at "m"
      exact ⟨_, _, S, fun s S => k _ _ _ _ s h1 h2 h3 (by rw [hks]; exact h4) h5 S⟩
  · intro v σ' s'' h S''; exact h s'' S''
end
end
section
open PySem PySem.W PyProof.Rows
theorem Ext.step {σ σ' : Own} {a : Addr} {P : Obj → Prop} (h : Ext σ σ') (ha : σ' a = Option.none) : Ext σ (Mine.upd σ' a P) := h.upd (h.none ha)
theorem swaps_no {env : Env} {L : Addr} {N : List (Str × Option Addr)} {z : Str} {k : Option Addr} {pz spos pos : Pos} {elt : Expr} {gens : List Comprehension} {scope : Scope} (e : EnvOk env L N) (hz : (z, k) ∈ N) (hk : k ≠ none) :
    swapsWith (.ListComp elt gens scope pos) (some (.Name z pz)) spos.line env = pure false := by
  cases k with
  | none => exact absurd rfl hk
  | some c =>
    unfold swapsWith
    have h2 : (env.kindOf z == some NameKind.local) = false := by rw [(e.cell z c hz).1]; rfl
    simp only [h2, Bool.and_false, Bool.false_and]
    try rfl
theorem item_some {prog : Program} {w : World} {A : Around} {E : Value → Shared → Prop} {B : Heap} {L : Addr} {N : List (Str × Option Addr)} {l : List (Option Value)} {σ : Own} {φ : Frz} {s₀ s : Shared} {value slice : Expr} {a : Addr} {vs : List Value} {ns : List Int} {k : Nat} {u : Tok} {Q : Value → Shared → Prop} (S : St B L N l σ φ s₀ s) (h : σ a = some (IsL vs)) (hi : Ints vs ns)
    (hfit : ns.length < 1000000) (hk : k < ns.length) (hq : ∀ (x : Int) (t : Tok), Q (.int x t) s)
    (hs : subscripted slice false (.ref a) (.int k u) = operate [.ref a, .int k u] (getItem (.ref a) (.int k u)) := by with_unfolding_all rfl) :
    wpAny (model prog w) A (subscriptTail value slice (.ref a) (.int k u)) Q E s := by
  obtain ⟨t, ht⟩ := hi.get (List.getElem?_eq_getElem hk)
  exact item_n S h (by rw [hi.1]; exact hfit) ht (hq _ _) hs
theorem col_short {T : Nat → Nat → Bool} {n : Nat} {col : Nat → List Nat} {k : Nat} (h : IsCol T n col k) : (col k).length ≤ n := nodup_lt (h.inc.imp fun h => Nat.ne_of_lt h) fun x hx => (h.rng x hx).2
theorem mul_ok {n z : Int} (h1 : 5 ≤ n) (h2 : n ≤ 7) : IntMulOk n z := by
  refine IntMulOk.of_left ?_
  have : n = 5 ∨ n = 6 ∨ n = 7 := by omega
  rcases this with rfl | rfl | rfl <;> decide
inductive LaA (σ1 : Own) (y : Addr × List Value) (i : Nat) (ys : List Value) (σ' : Own) : Prop
  | mk (ns : List Int) (h1 : Ext σ1 σ') (h2 : σ' y.1 = some (IsL y.2)) (h3 : y.2.length = 6) (h4 : (∀ v ∈ y.2, ∃ (t : Addr) (x z : Int) (u1 u2 : Tok), v = .ref t ∧ σ' t = some (IsTp [.int x u1, .int z u2]))) (h5 : ys.length ≤ i) (h6 : Ints ys ns) : LaA σ1 y i ys σ'
theorem law_walk {w : World} {s : Shared} {sa : Addr} {svs : List Value} {sns : List Int} (hB : Base w s.heap) (hs : s.heap.IsList sa svs.toArray) (hi : Ints svs sns) (hsl : sns.length ≤ 63) :
    codeAny (model PR w) callerA (.call (.ref 208) ⟨[.ref sa], []⟩) (fun r s' => r = .ok (.ret (.bool true)) ∧ s.heap.StaysIn s'.heap ∧ s'.gens = s.gens ∧ s'.drawn = s.drawn ∧ s'.os = s.os) s := by
  refine code_top [(nm "script", false), (nm "numbers", false), (nm "size", true), (nm "first", false), (nm "tied", true), (nm "parts", true), (nm "keys", false), (nm "columns", false), (nm "order", false)]
    [some (.ref sa), none, none, none, none, none, none, none, none]
    [(nm "sum", .builtin "sum"), (nm "_law_tied", .ref 181), (nm "range", .type "range"), (nm "_law_columns", .ref 191), (nm "list", .type "list"), (nm "_law_run", .ref 198), (nm "_law_plain", .ref 203)]
    hB (hB.globs rfl) (hB.X _ _ rfl) rfl (codeRec_of hB.X rfl) rfl rfl rfl rfl rfl (cells_mix rfl) (some_cells rfl) (by decide) rfl (by walk_at "init") ?_
  intro env A' L' κ s' hκ e eG dA FM S'
  generalize s.heap = B at hB hs e eG FM S' ⊢
  have R0 : Rm callerA 21 := ⟨by decide +kernel, by decide +kernel, rfl⟩
  have R' := R0.deeper dA
  dsimp only [List.map] at S' e ⊢
  dsimp only [cond] at S' e ⊢
  have hκ1 : κ (nm "size") ≠ none := hκ (nm "size", true) (by simp) rfl
  have hκ2 : κ (nm "tied") ≠ none := hκ (nm "tied", true) (by simp) rfl
  have hκ3 : κ (nm "parts") ≠ none := hκ (nm "parts", true) (by simp) rfl
  have hsvl : svs.length = sns.length := hi.1
  walk_at "m"
  intro sl s1 hsl0 S
  refine cut_b S hsl0 hs .none (.int 24 _) .none (by intro c; cases c) (by rw [sizeLine_eq]; omega) (fun na s1 hna S => ?_) (by with_unfolding_all rfl)
  have esl : (slicePick svs.toArray none (some 24) none).toList = svs.take 24 := slice_upto svs 24
  rw [esl] at S
  have hni := hi.take 24
  have hnl : (sns.take 24).length ≤ 24 := by simp; (clear hsl hsvl; omega)
  have hnvl : (svs.take 24).length = (sns.take 24).length := hni.1
  generalize svs.take 24 = nvs at S hni hnvl
  generalize sns.take 24 = nns at hni hnl hnvl
  have hna1 : upd (fun _ => none) na (IsL nvs) na = some (IsL nvs) := upd_self
  generalize upd (fun _ => none) na (IsL nvs) = σ1 at S hna1
  walk_at "m"
  refine sum_l R'.handled S hna1 hni fun sk st s1 S => ?_
  walk_at "m"
  refine mod_v S (by decide) fun t s1 S => ?_
  obtain ⟨r, hr, hr3⟩ := fmod_nat sk (n := 3) (by decide)
  rw [show sk.fmod 3 = (r : Int) from hr]
  walk_at "m"
  have e5 : (5 : Int) + (r : Nat) = ((5 + r : Nat) : Int) := by (clear hr hnvl hnl hsvl hsl; omega)
  rw [e5] at S
  have hn1 : 5 ≤ 5 + r := by (clear hr3 hr hnvl hnl hsvl hsl; omega)
  have hn2 : 5 + r ≤ 7 := by (clear hr hnvl hnl hsvl hsl; omega)
  generalize 5 + r = n at S hn1 hn2
  generalize t = tn at S
  refine comp_set_jT (τ := Addr × List Value) 6 (fun y => y.2) (fun y => y.1) (LaA σ1)
    [nm "a", nm "b"] [(nm "size", .int n tn)] [] []
    (fun D => [some (.ref sa), some (.ref na), some (.int n tn), some (.ref D), none, none, none, none, none])
    S e (envF_nil e) (compOk_of rfl eG (fun _ h => nomatch h) ?_) R'.handled ?_ ?_ (by rw [sizeLine_eq]; omega) ?_ ?_ (fun D => by walk_at "sv") ?_ (swaps_yes e (by walk_at "mm") rfl rfl) (by with_unfolding_all (intro _; rfl))
  · intro q hq
    simp at hq
    subst hq
    exact .inl ⟨_, hκ1, by walk_at "gv"⟩
  · walk_at "m"
    refine newTuple_l S (by simp [sizeLine_eq]) fun t0 s1 h0 S => ?_
    walk_at "m"
    refine newTuple_l S (by simp [sizeLine_eq]) fun t1 s1 h1 S => ?_
    walk_at "m"
    refine newTuple_l S (by simp [sizeLine_eq]) fun t2 s1 h2 S => ?_
    walk_at "m"
    refine newTuple_l S (by simp [sizeLine_eq]) fun t3 s1 h3 S => ?_
    walk_at "m"
    refine newTuple_l S (by simp [sizeLine_eq]) fun t4 s1 h4 S => ?_
    walk_at "m"
    refine newTuple_l S (by simp [sizeLine_eq]) fun t5 s1 h5 S => ?_
    walk_at "m"
    refine newList_l S (by simp [sizeLine_eq]) fun fa s1 hfa S => ?_
    walk_at "m"
    refine ⟨(fa, [.ref t0, .ref t1, .ref t2, .ref t3, .ref t4, .ref t5]), _, rfl, S, [], ((((((Ext.rfl.step h0).step h1).step h2).step h3).step h4).step h5).step hfa, upd_self, rfl, ?_, by simp, Ints.nil⟩
    intro v hv
    simp at hv
    rcases hv with rfl | rfl | rfl | rfl | rfl | rfl
    · exact ⟨t0, _, _, _, _, rfl, upd_none hfa (upd_none h5 (upd_none h4 (upd_none h3 (upd_none h2 (upd_none h1 upd_self)))))⟩
    · exact ⟨t1, _, _, _, _, rfl, upd_none hfa (upd_none h5 (upd_none h4 (upd_none h3 (upd_none h2 upd_self))))⟩
    · exact ⟨t2, _, _, _, _, rfl, upd_none hfa (upd_none h5 (upd_none h4 (upd_none h3 upd_self)))⟩
    · exact ⟨t3, _, _, _, _, rfl, upd_none hfa (upd_none h5 (upd_none h4 upd_self))⟩
    · exact ⟨t4, _, _, _, _, rfl, upd_none hfa (upd_none h5 upd_self)⟩
    · exact ⟨t5, _, _, _, _, rfl, upd_none hfa upd_self⟩
  · rintro y i ys σ2 ⟨_, _, h1, h2, h3, _⟩
    exact ⟨h1, h2, fun v hv => let ⟨t, _, _, _, _, e, _⟩ := h3 v hv; ⟨t, e⟩⟩
  · rintro y i ys σ2 ⟨_, _, _, _, _, h, _⟩; exact h
  · rintro y i v ys σ2 cenv C φ'' s1 hi hv ⟨ns, hx, hy1, hy2, hy3, hyl, hns⟩ e' eF' eG' S
    dsimp only [List.map] at S e' ⊢
    obtain ⟨t, x, z, u1, u2, rfl, ht⟩ := hy3 v (List.mem_of_getElem? hv)
    refine assign_pair R'.handled S ht fun s1 S => ?_
    walk_at "m"
    by_cases hz : z < (n : Int)
    · refine ite_t (by simpa using hz) ?_
      walk_at "m"
      refine mul_v S (fun t s1 S => ?_) (mul_ok (by (clear hn2 hyl hy2 e5 hr3 hr hnvl hnl hsvl hsl; omega)) (by (clear hn1 hyl hy2 e5 hr3 hr hnvl hnl hsvl hsl; omega)))
      walk_at "m"
      exact ⟨_, _, ⟨_, hx, hy1, hy2, hy3, by simp; (clear hy2 hn2 hn1 e5 hr3 hr hnvl hnl hsvl hsl; omega), hns.snoc _ _⟩, S⟩
    · refine ite_f (by simpa using hz) ?_
      exact ⟨_, _, ⟨_, hx, hy1, hy2, hy3, by (clear hy2 hn2 hn1 e5 hr3 hr hnvl hnl hsvl hsl; omega), hns⟩, S⟩
  · rintro y fa fvs σ2 s1 ⟨fns, hx, _, _, _, hfl, hfi⟩ hfa S
    walk_at "m"
    refine add_ll S upd_self (upd_none hfa (hx _ _ hna1)) (by rw [sizeLine_eq]; (clear e5 hr3 hr hsvl hsl; omega)) fun ga s1 hga S => ?_
    walk_at "m"
    refine tied_spec hB (R'.less (by omega)) S ga _ _ n _ upd_self (hfi.append hni) (by simp; (clear e5 hr3 hr hsvl hsl; omega)) (by (clear hn2 e5 hr3 hr hnvl hnl hsvl hsl; omega)) (by (clear hn1 e5 hr3 hr hnvl hnl hsvl hsl; omega)) _ _ fun σ3 ta rows T s1 hx3 hM hsym hirr S => ?_
    have hx31 : Ext σ1 σ3 := ((hx.step hfa).step hga).trans hx3
    have hna3 := hx31 _ _ hna1
    clear hx hx3 hfi hfa hga
    walk_at "m"
    refine wpAny_Assign_Name ?_ (swaps_no e (by walk_at "mm") hκ3)
    refine comp_j nvs.length (fun i v => nvs[i]? = some v) (needL na nvs) (fun i ys σ' => Ext σ3 σ' ∧ ys.length ≤ i ∧ ∃ ns, Ints ys ns) [nm "x"] [] [] []
      S e (envF_nil e) (compOk_of rfl eG (fun _ h => nomatch h) (fun _ h => nomatch h)) ?_ (fun _ _ _ h => h.1 _ _ hna3) (by rw [sizeLine_eq]; omega) (fun _ _ _ h => h.2.1) ?_ ?_ (fun _ _ => rfl) (by with_unfolding_all (intro _; rfl))
    · walk_at "m"
      exact iter_list R'.handled S hna3 fun it s1 rd => ⟨_, rd, Ext.rfl, by simp, [], Ints.nil⟩
    · rintro i v ys σ4 cenv C φ'' s1 hi hP ⟨hx4, hyl, ns, hns⟩ e' eF' eG' S
      dsimp only [List.map] at S e' ⊢
      obtain ⟨k, t, _, rfl⟩ := hni.at hP
      walk_at "m"
      walk_at "m"
      refine fdiv_v S (by decide) (by decide) fun t s1 S => ?_
      walk_at "m"
      exact ⟨_, _, ⟨hx4, by simp; (clear hi hfl hn2 hn1 e5 hr3 hr hnvl hnl hsvl hsl; omega), _, hns.snoc _ _⟩, S⟩
    rintro pa pvs σ4 s1 ⟨hx4, hpl, pns, hpi⟩ hpa S
    have hx5 := hx4.step (P := IsL pvs) hpa
    have hpa5 : upd σ4 pa (IsL pvs) pa = some (IsL pvs) := upd_self
    generalize upd σ4 pa (IsL pvs) = σ5 at S hx5 hpa5
    clear hx4 hpa
    walk_at "m"
    refine comp_set_j n (fun i v => ∃ t : Tok, v = .int (i : Nat) t) needN (fun i ys σ' => Ext σ5 σ' ∧ ∃ ns, Ints ys ns ∧ ns.length = i) [nm "k"] [(nm "parts", .ref pa), (nm "size", .int n tn)] [] [(nm "sum", .builtin "sum")]
      (fun D => [some (.ref sa), some (.ref na), some (.int n tn), some (.ref fa), some (.ref ta), some (.ref pa), some (.ref D), none, none])
      S e (envF_nil e) (compOk_of rfl eG (hB.globs rfl) ?_) ?_ (fun _ _ _ _ => trivial) (by rw [sizeLine_eq]; (clear hn1 hpl e5 hr3 hr hnvl hnl hsvl hsl; omega)) ?_ ?_ (fun D => by walk_at "sv") ?_ (swaps_yes e (by walk_at "mm") rfl rfl) (fun _ _ => rfl) (by with_unfolding_all (intro _; rfl))
    · intro q hq
      simp at hq
      rcases hq with rfl | rfl
      · exact .inl ⟨_, hκ3, by walk_at "gv"⟩
      · exact .inl ⟨_, hκ1, by walk_at "gv"⟩
    · walk_at "m"
      refine range_1 S fun r s1 hr S => ?_
      walk_at "m"
      exact iter_n R'.handled S hr (by (clear hn1 hpl hnvl hnl hsvl hsl; omega)) fun it s1 rd => ⟨_, rd, Ext.rfl, [], Ints.nil, rfl⟩
    · rintro i ys σ' ⟨_, ns, h1, h2⟩; rw [h1.1, h2]; exact Nat.le_refl _
    · rintro i v ys σ6 cenv C φ'' s1 hi ⟨tk, rfl⟩ ⟨hx6, ns, hns, hnsl⟩ e' eF' eG' S
      dsimp only [List.map] at S e' ⊢
      walk_at "m"
      walk_at "m"
      refine newList_l S (by simp [sizeLine_eq]) fun ma s1 hma S => ?_
      walk_at "m"
      refine item_some S upd_self (((((((Ints.nil.snoc 4 _).snoc 1 _).snoc 5 _).snoc 0 _).snoc 3 _).snoc 6 _).snoc 2 _) (by simp) (by simp; (clear hn1 hnsl hpl hfl e5 hr3 hr hnvl hnl hsvl hsl; omega)) fun x u => ?_
      walk_at "m"
      intro sl s1 hsl S
      refine cut_l S hsl (upd_none hma (hx6 _ _ hpa5)) (.int _ _) .none (.int _ _) (by intro c; have := Option.some.inj c; (clear hn2 hnsl hpl hfl e5 hr3 hr hnvl hnl hsvl; omega)) (by rw [sizeLine_eq]; (clear hnsl hfl hn2 hn1 e5 hr3 hr hsvl; omega)) (fun sb s1 hsb S => ?_) (by with_unfolding_all rfl)
      walk_at "m"
      refine sum_l R'.handled S upd_self (Ints.of (hpi.are.pick _ _ _)) fun z tz s1 S => ?_
      walk_at "m"
      exact ⟨_, _, ⟨(hx6.step hma).step hsb, _, hns.snoc _ _, by simp [hnsl]⟩, S⟩
    · rintro ka kvs σ6 s1 ⟨hx6, kns, hki, hkl⟩ hka S
      have hx7 := hx6.step (P := IsL kvs) hka
      have hk7 : upd σ6 ka (IsL kvs) ka = some (IsL kvs) := upd_self
      generalize upd σ6 ka (IsL kvs) = σ7 at S hx7 hk7
      have hM7 : Mat σ7 ta rows n T := hM.ext (hx5.trans hx7)
      clear hx6 hka hx5 hx7 hpa5 hM hna3 hx31 hna1
      walk_at "m"
      refine range_1 S fun r s1 hr S => ?_
      walk_at "m"
      refine lrange_l R'.handled S hr (by (clear hn1 hkl hpl hnvl hnl hsvl hsl; omega)) fun oa ovs s1 hoa hoi S => ?_
      walk_at "m"
      refine columns_spec hB (R'.less (by omega)) S ta rows n T oa ovs (List.range n) (hM7.ext (Ext.rfl.step hoa)) upd_self hoi (by simp) (by simp) List.nodup_range (by (clear hn1 hkl hpl hnvl hnl hsvl hsl; omega)) _ _ fun σ8 ca ads css col s1 hx8 hca hC hcl hcol0 hcss0 S => ?_
      obtain ⟨hcol, hcss⟩ := cols_range hcol0 hcss0
      have hx78 : Ext σ7 σ8 := (Ext.rfl.step hoa).trans hx8
      have hM8 := hM7.ext hx78
      have hk8 := hx78 _ _ hk7
      clear hx8 hx78 hcol0 hcss0 hM7 hk7 hoi hr hoa hca
      walk_at "m"
      refine wpAny_If ?_
      walk_at "m"
      refine comp_j n (fun i v => ∃ t : Tok, v = .int (i : Nat) t) needN (fun i ys σ' => Ext σ8 σ' ∧ ∃ ads' : List Addr, ys = ads'.map Value.ref ∧ ads'.length = i ∧ ∀ (m : Nat) (c : Addr), ads'[m]? = some c → ∃ vs, σ' c = some (IsL vs) ∧ Ints vs (zi (col m))) [nm "point"] [(nm "tied", .ref ta)] [] [(nm "_law_met", .ref 186)]
        S e (envF_nil e) (compOk_of rfl eG (hB.globs rfl) ?_) ?_ (fun _ _ _ _ => trivial) (by rw [sizeLine_eq]; (clear hn1 hkl hcl hpl e5 hr3 hr hnvl hnl hsvl hsl; omega)) ?_ ?_ ?_ (fun _ _ => rfl) (by with_unfolding_all (intro _; rfl))
      · intro q hq
        simp at hq
        subst hq
        exact .inl ⟨_, hκ2, by walk_at "gv"⟩
      · walk_at "m"
        refine range_1 S fun r s1 hr S => ?_
        walk_at "m"
        exact iter_n R'.handled S hr (by (clear hn1 hkl hcl hpl hnvl hnl hsvl hsl; omega)) fun it s1 rd => ⟨_, rd, Ext.rfl, [], rfl, rfl, by simp⟩
      · rintro i ys σ' ⟨_, ads', rfl, h, _⟩; simp; (clear hcl hkl hpl hfl hn2 hn1 e5 hr3 hr hnvl hnl hsvl hsl; omega)
      · rintro i v ys σ9 cenv C φ'' s1 hi ⟨tk, rfl⟩ ⟨hx9, ads', rfl, hal, hads⟩ e' eF' eG' S
        dsimp only [List.map] at S e' ⊢
        walk_at "m"
        walk_at "m"
        refine met_spec hB (R'.less (by (clear hal hcl hkl hpl hfl e5 hr3 hr hnvl hnl hsvl hsl; omega))) S ta rows n i T _ (hM8.ext hx9) hi (by (clear hn1 hkl hcl hal hpl hfl e5 hr3 hr hnvl hnl hsvl hsl; omega)) _ _ fun σ10 ra rvs ps seen s1 hx10 hra hrv hri h0 h1 h2 hps S => ?_
        rw [hps, met_col hsym hcol hi h0 h1 h2] at hri
        walk_at "m"
        refine ⟨_, _, ⟨hx9.trans hx10, ads' ++ [ra], by simp, by simp [hal], fun m c hm => ?_⟩, S⟩
        by_cases c1 : m < ads'.length
        · rw [List.getElem?_append_left c1] at hm
          obtain ⟨vs, a1, a2⟩ := hads m c hm
          exact ⟨vs, hx10 _ _ a1, a2⟩
        · have hml := (List.getElem?_eq_some_iff.mp hm).1
          simp at hml
          have : m = i := by (clear hi hcl hkl hpl hfl hn2 hn1 e5 hr3 hr hnvl hnl hsvl hsl; omega)
          subst this
          rw [List.getElem?_append_right (by (clear hml hcl hkl hpl hfl hn2 hn1 e5 hr3 hr hnvl hnl hsvl hsl; omega)), hal] at hm
          simp at hm
          subst hm
          exact ⟨rvs, hrv, hri⟩
      · rintro D ys σ9 s1 ⟨hx9, ads', rfl, hal, hads⟩ hD S
        have hC9 := hC.ext (hx9.step (P := IsL (ads'.map Value.ref)) hD)
        have hM9 := hM8.ext (hx9.step (P := IsL (ads'.map Value.ref)) hD)
        have hk9 := (hx9.step (P := IsL (ads'.map Value.ref)) hD) _ _ hk8
        have hD9 : Cols (upd σ9 D (IsL (ads'.map Value.ref))) D ads' css := ⟨upd_self, by (clear hpl hfl hn2 hn1 e5 hr3 hr hnvl hnl hsvl hsl; omega), fun i c cs h1 h2 => by
          have hin : i < n := by have := (List.getElem?_eq_some_iff.mp h1).1; (clear hkl hcl hpl hfl e5 hr3 hr hnvl hnl hsvl hsl; omega)
          rw [hcss i hin] at h2; cases h2
          obtain ⟨vs, a1, a2⟩ := hads i c h1
          exact ⟨vs, upd_none hD a1, a2⟩⟩
        generalize upd σ9 D (IsL (ads'.map Value.ref)) = σ9' at S hC9 hM9 hk9 hD9
        clear hx9 hads hD hC hM8 hk8
        walk_at "m"
        refine ne_ii (R'.less (by (clear hal hcl hkl hpl hn2 hn1 e5 hr3 hr hnvl hnl hsvl hsl; omega))) S hC9 hD9 ?_
        walk_at "m"
        refine ite_f (by simp) ?_
        clear hD9
        walk_at "m"
        have hpar : ∀ p q, p < n → (col p).head? = some q → p < q ∧ q < n := fun p q hp h => (hcol p hp).rng q (List.mem_of_mem_head? h)
        have hc1 : ∀ p, p < n → (col p).head? = none → css[p]? = some [] := fun p hp h => by
          rw [hcss p hp, List.head?_eq_none_iff.mp h]; rfl
        have hc2 : ∀ p q, p < n → (col p).head? = some q → ∃ r, css[p]? = some ((q : Int) :: r) := fun p q hp h => by
          cases e : col p with
          | nil => rw [e] at h; cases h
          | cons a r => rw [e] at h; cases h; exact ⟨zi r, by rw [hcss p hp, e]; rfl⟩
        have hcb : ∀ (p : Nat) (cs : List Int), css[p]? = some cs → cs.length ≤ 1000 := fun p cs h => by
          have hp : p < n := by have := (List.getElem?_eq_some_iff.mp h).1; (clear hkl hal hpl hfl e5 hr3 hr hnvl hnl hsvl hsl; omega)
          rw [hcss p hp] at h; cases h
          have := col_short (hcol p hp)
          simp; (clear hn1 hkl hcl hal hpl hfl e5 hr3 hr hnvl hnl hsvl hsl; omega)
        refine run_spec hB (R'.less (by (clear hal hcl hkl hpl hn2 hn1 e5 hr3 hr hnvl hnl hsvl hsl; omega))) (.inl ⟨env, FM⟩) S hC9 hcl hk9 hki hkl (by (clear hn1 hkl hcl hal hpl e5 hr3 hr hnvl hnl hsvl hsl; omega)) (par := fun p => (col p).head?) hpar hc1 hc2 fun σ11 oa2 ovs2 ord s1 hx11 ho11 hoi11 hP hol hond hob S => ?_
        have hC11 := hC9.ext hx11
        have hM11 := hM9.ext hx11
        have hk11 := hx11 _ _ hk9
        clear hx11 hC9 hM9 hk9
        walk_at "m"
        refine BoolOp_and ?_
        walk_at "m"
        refine plain_spec hB (R'.less (by (clear hol hal hcl hkl hpl hn2 hn1 e5 hr3 hr hnvl hnl hsvl hsl; omega))) S hC11 hcl hk11 hki hkl (by (clear hn1 hkl hcl hal hol hpl e5 hr3 hr hnvl hnl hsvl hsl; omega)) (par := fun p => (col p).head?) hpar hc1 hc2 hcb fun σ12 pa2 pvs2 ord2 s1 hx12 hp12 hpi12 hP2 hpl2 S => ?_
        have eo : ord = ord2 := hP.uniq hP2 (by (clear hcl hal hpl hfl hn2 hn1 e5 hr3 hr hnvl hnl hsvl hsl; omega))
        have hC12 := hC11.ext hx12
        have hM12 := hM11.ext hx12
        have ho12 := hx12 _ _ ho11
        clear hC11 hM11 hk11
        walk_at "m"
        refine eq_i (R'.less (by (clear hpl2 hol hal hcl hkl hpl hn2 hn1 e5 hr3 hr hnvl hnl hsvl hsl; omega))) S ho12 hoi11 hp12 hpi12 ?_
        rw [decide_eq_true (show zi ord = zi ord2 by rw [eo])]
        walk_at "m"
        refine BoolOp_one ?_
        walk_at "m"
        refine columns_spec hB (R'.less (by (clear hpl2 hol hal hcl hkl hpl hn2 hn1 e5 hr3 hr hnvl hnl hsvl hsl; omega))) S ta rows n T oa2 ovs2 ord hM12 ho12 hoi11 hol hob hond (by (clear hn1 hkl hcl hal hol hpl2 hpl e5 hr3 hr hnvl hnl hsvl hsl; omega)) _ _ fun σ13 ca3 ads3 css3 col3 s1 hx13 hca3 hC13 hcl3 hcol3 hcss3 S => ?_
        have hC14 := hC12.ext hx13
        walk_at "m"
        refine eq_ii (R'.less (by (clear hcl3 hpl2 hol hal hcl hkl hpl hn2 hn1 e5 hr3 hr hnvl hnl hsvl hsl; omega))) S hC13 hC14 ?_
        rw [decide_eq_true (cols_again hsym hcol hcol3 hol hond hob hP hcl hcl3 hcss hcss3)]
        walk_at "m"
        exact ⟨rfl, S.base, S.gens, S.drawn, S.os⟩
end
section
open PySem PySem.W PyProof.Rows
theorem law_at {P : Params} {mg : Str → Option Value} {h : Heap} {fa : Addr} (hg : h.Ns mainGlobals mg) (KX : (hd.heap_39 P).In h) (hm : mg (nm "law") = some (.ref fa)) : fa = 208 := by
  obtain ⟨o, es, ep, ho, hdd, hsk, hf⟩ := hg
  obtain ⟨o', ho', es', ep', hd'⟩ : ∃ o', h.get? mainGlobals = some o' ∧ ∃ es ep, o'.data = .dict es ep ∧ es = gsEs P := ⟨_, KX mainGlobals _ rfl, _, _, rfl, rfl⟩
  rw [ho] at ho'; cases ho'
  have e : es = gsEs P := by
    obtain ⟨h1, h2⟩ := hd'
    rw [hdd] at h1; cases h1; exact h2
  have h2 := hf (nm "law")
  rw [e, hm] at h2
  have h3 : nsFind (gsEs P) (nm "law") = some (.ref 208) := by rfl
  rw [h3] at h2
  cases h2; rfl
end
end Mine
open PySem PySem.W PyProof.Rows
theorem PySem.Challenge.cw_mj0236_01_holds : PySem.Challenge.rw_mj0236_01.Holds := by
  apply Mine.hd
  k_fill
  intro w s₀ s₁ mg mb G Y fa o pm cd doc dV kV ho hdd hcd hD hmg hg args vals as hpre hlay hrd hwl hlo
  have KX := kIn_of Y
  have X := (Ground.X G).1
  have V := (Ground.X G).2
  refine Ground.open G ?_
  intro T B D TE TW
  wrow_args hpre hlay hrd hwl hlo
  all_goals (first | refine callC_kw (enter_call ?_) | refine enter_call ?_)
  rename_i ns hs hlay0 hL1 hr1 hl2 w4 w3 sa svs w0 hL ra w1 r0 hI hr hc1 hc2
  have hBs : Mine.Base w s₁.heap := Mine.base_of T rfl KX
  have hfa : fa = 208 := Mine.law_at T.g KX hmg
  subst hfa
  refine codeAny_mono (Mine.law_walk hBs hL (Mine.Ints.of hI) (by omega)) ?_
  rintro r s' ⟨rfl, hbase, hgens, hdrawn, hos⟩
  refine ⟨.inl ⟨.bool true, .bool true, [], rfl, fun _ => rfl, .bool _, ?_, ?_⟩, .of_keep hbase, hos, .of_eq (hgens.trans hg)⟩
  · refine postW_of (X := true) (by rfl) ?_ rfl
    show WTm.value _ (.eq .res (.lit (.bool true))) _ = _
    simp [WTm.value, PySem.W.same]
  · intro _
    exact ⟨.nil, fun _ h => nomatch h⟩

