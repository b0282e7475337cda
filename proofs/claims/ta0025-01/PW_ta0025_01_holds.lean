import PyProof.Rows.All
import Wide.All
import OpenK.AllK
import Wide.FinOn
import Open.Tops
import Lean
import PySem.Challenge.RW_ta0025_01
open PySem PySem.W PyProof.Rows PySem.Spec PySem.Calls
set_option Elab.async false
set_option maxRecDepth 100000
set_option linter.all false

-- M1
namespace Mine

/-- what the letters stand for -/
structure Zt where
  n : Int
  t : Nat → Value
inductive V where
  | int (a b : Int)
  | str (s : List Nat)
  | bool (b : Bool)
  | nil
  | bytes (s : List UInt8)
  | ref (i : Nat)
  | opq (k : Nat)
deriving DecidableEq

inductive O where
  | list (l : List V)
  | tup (l : List V)
deriving DecidableEq

structure St where
  v : List (Option V)
  h : List O

inductive All2 {α β : Type} (R : α → β → Prop) : List α → List β → Prop where
  | nil : All2 R [] []
  | cons {a : α} {b : β} {l : List α} {m : List β} : R a b → All2 R l m → All2 R (a :: l) (b :: m)

namespace All2
variable {α β : Type} {R S : α → β → Prop}
theorem mono (hs : ∀ a b, R a b → S a b) : ∀ {l : List α} {m : List β}, All2 R l m → All2 S l m
  | _, _, .nil => .nil
  | _, _, .cons h r => .cons (hs _ _ h) (mono hs r)
theorem length : ∀ {l : List α} {m : List β}, All2 R l m → l.length = m.length
  | _, _, .nil => rfl
  | _, _, .cons _ r => by simp [length r]
theorem snoc {a : α} {b : β} : ∀ {l : List α} {m : List β}, All2 R l m → R a b → All2 R (l ++ [a]) (m ++ [b])
  | _, _, .nil, h => .cons h .nil
  | _, _, .cons h r, h' => .cons h (snoc r h')
theorem append : ∀ {l l' : List α} {m m' : List β}, All2 R l m → All2 R l' m' → All2 R (l ++ l') (m ++ m')
  | _, _, _, _, .nil, h => h
  | _, _, _, _, .cons h r, h' => .cons h (append r h')
theorem get {a : α} : ∀ {l : List α} {m : List β}, All2 R l m → ∀ {i : Nat}, l[i]? = some a → ∃ b, m[i]? = some b ∧ R a b
  | _, _, .nil, _, e => by simp at e
  | _, _, .cons h r, 0, e => by simp at e; subst e; exact ⟨_, rfl, h⟩
  | _, _, .cons h r, i + 1, e => by
    simp at e
    obtain ⟨b, hb, hr⟩ := get r e
    exact ⟨b, by simpa using hb, hr⟩
theorem get' {b : β} : ∀ {l : List α} {m : List β}, All2 R l m → ∀ {i : Nat}, m[i]? = some b → ∃ a, l[i]? = some a ∧ R a b
  | _, _, .nil, _, e => by simp at e
  | _, _, .cons h r, 0, e => by simp at e; subst e; exact ⟨_, rfl, h⟩
  | _, _, .cons h r, i + 1, e => by
    simp at e
    obtain ⟨b, hb, hr⟩ := get' r e
    exact ⟨b, by simpa using hb, hr⟩
theorem none {l : List α} {m : List β} (h : All2 R l m) {i : Nat} (e : l[i]? = Option.none) : m[i]? = Option.none := by
  rw [List.getElem?_eq_none_iff] at e ⊢
  rw [← h.length]; exact e
theorem drop : ∀ {l : List α} {m : List β} (n : Nat), All2 R l m → All2 R (l.drop n) (m.drop n)
  | _, _, 0, h => h
  | _, _, _ + 1, .nil => .nil
  | _, _, n + 1, .cons _ r => drop n r
theorem take : ∀ {l : List α} {m : List β} (n : Nat), All2 R l m → All2 R (l.take n) (m.take n)
  | _, _, 0, h => by simpa using All2.nil
  | _, _, _ + 1, .nil => .nil
  | _, _, n + 1, .cons h r => .cons h (take n r)
theorem reverse : ∀ {l : List α} {m : List β}, All2 R l m → All2 R l.reverse m.reverse
  | _, _, .nil => .nil
  | _, _, .cons h r => by
    rw [List.reverse_cons, List.reverse_cons]
    exact snoc (reverse r) h
end All2

/-- an abstract value and a value of the machine; α: where the abstract objects lie -/
noncomputable def Rep (z : Zt) (α : List Addr) : V → Value → Prop
  | .int a b, v => ∃ t, v = .int (a * z.n + b) t
  | .str s, v => ∃ t, v = .str ⟨s.toArray⟩ t
  | .bool b, v => v = .bool b
  | .nil, v => v = .none
  | .bytes s, v => ∃ t, v = .bytes s.toArray t
  | .ref i, v => ∃ a, α[i]? = some a ∧ v = .ref a
  | .opq k, v => v = z.t k

noncomputable def ObjIs (z : Zt) (α : List Addr) : O → Obj → Prop
  | .list l, o => ∃ vs n, o = { cls := .type "list", data := .seq (List.toArray vs) n } ∧ All2 (Rep z α) l vs
  | .tup l, o => ∃ vs n, o = { cls := .type "tuple", data := .seq (List.toArray vs) n } ∧ All2 (Rep z α) l vs

theorem pre_get {α β : List Addr} (h : α <+: β) {i : Nat} {a : Addr} (e : α[i]? = some a) : β[i]? = some a := by
  obtain ⟨r, rfl⟩ := h
  obtain ⟨hl, rfl⟩ := List.getElem?_eq_some_iff.mp e
  simp [List.getElem?_append_left hl]

theorem Rep.mono {z : Zt} {α β : List Addr} (h : α <+: β) : ∀ {v : V} {w : Value}, Rep z α v w → Rep z β v w
  | .int _ _, _, r => r
  | .str _, _, r => r
  | .bool _, _, r => r
  | .nil, _, r => r
  | .bytes _, _, r => r
  | .ref _, _, ⟨a, e, r⟩ => ⟨a, pre_get h e, r⟩
  | .opq _, _, r => r

theorem ObjIs.mono {z : Zt} {α β : List Addr} (h : α <+: β) : ∀ {o : O} {ob : Obj}, ObjIs z α o ob → ObjIs z β o ob
  | .list _, _, ⟨vs, n, e, r⟩ => ⟨vs, n, e, r.mono fun _ _ => Rep.mono h⟩
  | .tup _, _, ⟨vs, n, e, r⟩ => ⟨vs, n, e, r.mono fun _ _ => Rep.mono h⟩

theorem ObjIs.alive {z : Zt} {α : List Addr} : ∀ {o : O} {ob : Obj}, ObjIs z α o ob → ob.isFreed = false
  | .list _, _, ⟨_, _, e, _⟩ => by subst e; rfl
  | .tup _, _, ⟨_, _, e, _⟩ => by subst e; rfl

/-- where a variable lies: under a name of a frame's dict, or in a cell -/
inductive Slot where
  | ns (a : Addr) (x : Str)
  | cell (c : Addr)

namespace Slot
noncomputable def base : Slot → Addr
  | ns a _ => a
  | cell c => c
noncomputable def Holds (h : Heap) : Slot → Value → Prop
  | ns a x, v => ∃ m, h.Ns a m ∧ m x = some v
  | cell c, v => h.IsCell c (some v)
noncomputable def Live (h : Heap) : Slot → Prop
  | ns a _ => ∃ m, h.Ns a m
  | cell c => ∃ v, h.IsCell c v
noncomputable def Apart : Slot → Slot → Prop
  | ns a x, ns b y => a ≠ b ∨ x ≠ y
  | s, t => s.base ≠ t.base
theorem Apart.symm : ∀ {s t : Slot}, Apart s t → Apart t s
  | ns _ _, ns _ _, h => h.imp Ne.symm Ne.symm
  | ns _ _, cell _, h => Ne.symm h
  | cell _, ns _ _, h => Ne.symm h
  | cell _, cell _, h => Ne.symm h
theorem Live.lt {h : Heap} : ∀ {s : Slot}, s.Live h → s.base < h.objs.size
  | ns _ _, ⟨_, n⟩ => n.lt
  | cell _, ⟨_, c⟩ => c.lt
end Slot

theorem ns_at {h h' : Heap} {a : Addr} {m : Str → Option Value} (n : h.Ns a m) (e : ∀ o, h.get? a = some o → h'.get? a = some o) : h'.Ns a m :=
  let ⟨o, es, ep, x, r⟩ := n; ⟨o, es, ep, e _ x, r⟩
theorem ns_one {h : Heap} {a : Addr} {m m' : Str → Option Value} (n : h.Ns a m) (n' : h.Ns a m') : m = m' := by
  obtain ⟨o, es, ep, e1, e2, _, e3⟩ := n
  obtain ⟨o', es', ep', f1, f2, _, f3⟩ := n'
  rw [e1] at f1; cases f1
  rw [e2] at f2; cases f2
  funext x; rw [← e3, ← f3]
theorem cell_at {h h' : Heap} {a : Addr} {v : Option Value} (n : h.IsCell a v) (e : ∀ o, h.get? a = some o → h'.get? a = some o) : h'.IsCell a v :=
  let ⟨o, x, r⟩ := n; ⟨o, e _ x, r⟩
namespace Slot
theorem Holds.at {h h' : Heap} : ∀ {s : Slot} {v : Value}, s.Holds h v → (∀ o, h.get? s.base = some o → h'.get? s.base = some o) → s.Holds h' v
  | ns _ _, _, ⟨m, n, e⟩, k => ⟨m, ns_at n k, e⟩
  | cell _, _, c, k => cell_at c k
theorem Live.at {h h' : Heap} : ∀ {s : Slot}, s.Live h → (∀ o, h.get? s.base = some o → h'.get? s.base = some o) → s.Live h'
  | ns _ _, ⟨m, n⟩, k => ⟨m, ns_at n k⟩
  | cell _, ⟨v, c⟩, k => ⟨v, cell_at c k⟩
end Slot

/-- the abstract state and the heap; h₀ : all that stays -/
structure Inv (z : Zt) (h₀ : Heap) (sl : List Slot) (α : List Addr) (σ : St) (h : Heap) : Prop where
  keep : ∀ b o, h₀.get? b = some o → h.get? b = some o
  live : ∀ s ∈ sl, s.Live h
  vars : ∀ (i : Nat) (v : V), σ.v[i]? = some (some v) → ∃ (s : Slot) (x : Value), sl[i]? = some s ∧ s.Holds h x ∧ Rep z α v x
  objs : ∀ (i : Nat) (o : O), σ.h[i]? = some o → ∃ (a : Addr) (ob : Obj), α[i]? = some a ∧ h.get? a = some ob ∧ ObjIs z α o ob
  len : α.length = σ.h.length
  apart : sl.Pairwise Slot.Apart
  nodup : α.Nodup
  sep : ∀ s ∈ sl, s.base ∉ α
  fresh : ∀ a ∈ α, h₀.get? a = none
  freshS : ∀ s ∈ sl, h₀.get? s.base = none

namespace Inv
variable {z : Zt} {h₀ h h' : Heap} {sl : List Slot} {α : List Addr} {σ : St}

theorem get {i : Nat} {a : Addr} (I : Inv z h₀ sl α σ h) (e : α[i]? = some a) : ∃ o ob, σ.h[i]? = some o ∧ h.get? a = some ob ∧ ObjIs z α o ob := by
  have hl := (List.getElem?_eq_some_iff.mp e).1
  have hl' : i < σ.h.length := I.len ▸ hl
  obtain ⟨a', ob, e', g, r⟩ := I.objs i σ.h[i] (by simp [hl'])
  rw [e] at e'; cases e'
  exact ⟨_, ob, by simp [hl'], g, r⟩

theorem lt {a : Addr} (I : Inv z h₀ sl α σ h) (e : a ∈ α) : a < h.objs.size := by
  obtain ⟨i, hi, rfl⟩ := List.getElem_of_mem e
  obtain ⟨_, ob, _, g, _⟩ := I.get (i := i) (a := α[i]) (by simp [hi])
  exact Heap.lt_size g

/-- nothing of the state's is touched -/
theorem keeps (I : Inv z h₀ sl α σ h) (k : ∀ b o, h.get? b = some o → h'.get? b = some o) : Inv z h₀ sl α σ h' where
  keep := fun b o e => k b o (I.keep b o e)
  live := fun s hs => (I.live s hs).at fun o e => k _ o e
  vars := fun i v e => let ⟨s, x, e1, e2, e3⟩ := I.vars i v e; ⟨s, x, e1, e2.at fun o e => k _ o e, e3⟩
  objs := fun i o e => let ⟨a, ob, e1, e2, e3⟩ := I.objs i o e; ⟨a, ob, e1, k _ _ e2, e3⟩
  len := I.len
  apart := I.apart
  nodup := I.nodup
  sep := I.sep
  fresh := I.fresh
  freshS := I.freshS

theorem base_lt {s : Slot} (I : Inv z h₀ sl α σ h) (e : s ∈ sl) : s.base < h.objs.size := (I.live s e).lt

theorem new_h₀ (I : Inv z h₀ sl α σ h) : h₀.get? h.objs.size = none := by
  cases e : h₀.get? h.objs.size with
  | none => rfl
  | some o => exact absurd (Heap.lt_size (I.keep _ _ e)) (Nat.lt_irrefl _)

/-- a new object -/
theorem alloc (I : Inv z h₀ sl α σ h) {o : O} {ob : Obj} (r : ObjIs z α o ob) (hg : h'.get? h.objs.size = some ob) (k : ∀ b o, h.get? b = some o → h'.get? b = some o) :
    Inv z h₀ sl (α ++ [h.objs.size]) { σ with h := σ.h ++ [o] } h' where
  keep := fun b o e => k b o (I.keep b o e)
  live := fun s hs => (I.live s hs).at fun o e => k _ o e
  vars := fun i v e => let ⟨s, x, e1, e2, e3⟩ := I.vars i v e; ⟨s, x, e1, e2.at fun o e => k _ o e, e3.mono (List.prefix_append _ _)⟩
  objs := fun i o' e => by
    by_cases hi : i < σ.h.length
    · rw [List.getElem?_append_left hi] at e
      obtain ⟨a, ob', e1, e2, e3⟩ := I.objs i o' e
      exact ⟨a, ob', pre_get (List.prefix_append _ _) e1, k _ _ e2, e3.mono (List.prefix_append _ _)⟩
    · have hi' : i = σ.h.length := by
        have := (List.getElem?_eq_some_iff.mp e).1
        rw [List.length_append, List.length_singleton] at this
        omega
      subst hi'
      rw [List.getElem?_append_right (Nat.le_refl _)] at e
      simp at e; subst e
      exact ⟨_, ob, by rw [← I.len, List.getElem?_append_right (Nat.le_refl _)]; simp, hg, r.mono (List.prefix_append _ _)⟩
  len := by simp [I.len]
  apart := I.apart
  nodup := List.nodup_append.mpr ⟨I.nodup, by simp, fun a ha b hb => by
    simp at hb; subst hb
    exact Nat.ne_of_lt (I.lt ha)⟩
  sep := fun s hs hm => by
    rcases List.mem_append.mp hm with h1 | h1
    · exact I.sep s hs h1
    · exact Nat.ne_of_lt (I.base_lt hs) (List.mem_singleton.mp h1)
  fresh := fun a ha => by
    rcases List.mem_append.mp ha with h1 | h1
    · exact I.fresh a h1
    · rw [List.mem_singleton.mp h1]; exact I.new_h₀
  freshS := I.freshS

theorem pair_get {T : Type} {R : T → T → Prop} (hs : ∀ {s t}, R s t → R t s) : ∀ {l : List T}, l.Pairwise R → ∀ {i j : Nat} {s t : T}, l[i]? = some s → l[j]? = some t → i ≠ j → R s t
  | [], _, _, _, _, _, e, _, _ => by simp at e
  | x :: r, hp, i, j, s, t, e, e', hn => by
    obtain ⟨h1, h2⟩ := List.pairwise_cons.mp hp
    cases i with
    | zero =>
      cases j with
      | zero => exact absurd rfl hn
      | succ j => simp at e e'; subst e; exact h1 t (List.mem_of_getElem? e')
    | succ i =>
      cases j with
      | zero => simp at e e'; subst e'; exact hs (h1 s (List.mem_of_getElem? e))
      | succ j => simp at e e'; exact pair_get hs h2 e e' (fun q => hn (by rw [q]))
theorem nodup_get {l : List Addr} (hn : l.Nodup) {i j : Nat} {a : Addr} (e : l[i]? = some a) (e' : l[j]? = some a) : i = j := by
  by_cases h : i = j
  · exact h
  · exact absurd rfl (pair_get (R := fun a b : Addr => a ≠ b) (fun h => Ne.symm h) hn e e' h)

/-- an object of the state's is changed -/
theorem setObj (I : Inv z h₀ sl α σ h) {i : Nat} {a : Addr} (e : α[i]? = some a) {o : O} {ob : Obj} (r : ObjIs z α o ob) (hg : h'.get? a = some ob) (hs : ∀ b, b ≠ a → h'.get? b = h.get? b) :
    Inv z h₀ sl α { σ with h := σ.h.set i o } h' := by
  have ha : a ∈ α := List.mem_of_getElem? e
  have k : ∀ s ∈ sl, ∀ o, h.get? s.base = some o → h'.get? s.base = some o := fun s hs' o e' => by
    rw [hs s.base fun q => I.sep s hs' (q ▸ ha)]; exact e'
  refine ⟨fun b o' e' => ?_, fun s hs' => (I.live s hs').at (k s hs'), fun j v e' => ?_, fun j o' e' => ?_, by simp [I.len], I.apart, I.nodup, I.sep, I.fresh, I.freshS⟩
  · rw [hs b fun q => by rw [q, I.fresh a ha] at e'; cases e']
    exact I.keep b o' e'
  · obtain ⟨s, x, e1, e2, e3⟩ := I.vars j v e'
    exact ⟨s, x, e1, e2.at (k s (List.mem_of_getElem? e1)), e3⟩
  · by_cases hj : i = j
    · subst hj
      have hl : i < σ.h.length := I.len ▸ (List.getElem?_eq_some_iff.mp e).1
      simp only [List.getElem?_set_self hl, Option.some.injEq] at e'
      subst e'
      exact ⟨a, ob, e, hg, r⟩
    · simp only [List.getElem?_set_ne hj] at e'
      obtain ⟨b, ob', e1, e2, e3⟩ := I.objs j o' e'
      exact ⟨b, ob', e1, by rw [hs b fun q => hj (nodup_get I.nodup e (q ▸ e1))]; exact e2, e3⟩

/-- a variable is stored: what the store does to the heap, said of its slot -/
noncomputable def Stores (h h' : Heap) (s : Slot) (x : Value) : Prop := match s with
  | .ns a y => ∃ m, h.Ns a m ∧ h'.Ns a (fun w => if w = y then some x else m w) ∧ ∀ b, b ≠ a → h'.get? b = h.get? b
  | .cell c => h'.IsCell c (some x) ∧ ∀ b, b ≠ c → h'.get? b = h.get? b

theorem store (I : Inv z h₀ sl α σ h) {i : Nat} {s : Slot} (e : sl[i]? = some s) {v : V} {x : Value} (r : Rep z α v x) (S : Stores h h' s x) :
    Inv z h₀ sl α { σ with v := σ.v.set i (some v) } h' := by
  have hsl : s ∈ sl := List.mem_of_getElem? e
  have off : ∀ b, b ≠ s.base → h'.get? b = h.get? b := by
    cases s with
    | ns a y => exact S.choose_spec.2.2
    | cell c => exact S.2
  have holds : s.Holds h' x := by
    cases s with
    | ns a y => obtain ⟨m, _, n, _⟩ := S; exact ⟨_, n, by simp⟩
    | cell c => exact S.1
  have other : ∀ (t : Slot) (y : Value), Slot.Apart s t → t.Holds h y → t.Holds h' y := fun t y ap ht => by
    by_cases hb : t.base = s.base
    · cases s with
      | cell c => exact absurd hb.symm (by cases t <;> exact ap)
      | ns a n =>
        cases t with
        | cell c => exact absurd hb.symm ap
        | ns b k =>
          have hb' : b = a := hb
          subst hb'
          obtain ⟨m, n1, n2, _⟩ := S
          obtain ⟨m', n3, e3⟩ := ht
          rw [ns_one n3 n1] at e3
          refine ⟨_, n2, ?_⟩
          have hk : k ≠ n := fun q => ap.elim (fun p => p rfl) fun p => p q.symm
          simp [hk, e3]
    · exact ht.at fun o e => by rw [off _ hb]; exact e
  have liveO : ∀ t : Slot, t.Live h → t.Live h' := fun t ht => by
    by_cases hb : t.base = s.base
    · cases s with
      | cell c =>
        cases t with
        | cell c' => have : c' = c := hb; subst this; exact ⟨_, S.1⟩
        | ns b k =>
          exfalso
          obtain ⟨m, o, es, ep, g, d, _⟩ := ht
          obtain ⟨⟨o', g', d'⟩, _⟩ := S
          have hb' : b = c := hb
          subst hb'
          obtain ⟨v, o'', g'', d''⟩ := I.live _ hsl
          rw [g] at g''; cases g''
          rw [d] at d''; cases d''
      | ns a n =>
        cases t with
        | cell c =>
          exfalso
          obtain ⟨v, o, g, d⟩ := ht
          have hb' : c = a := hb
          subst hb'
          obtain ⟨m, o'', es, ep, g'', d'', _⟩ := I.live _ hsl
          rw [g] at g''; cases g''
          rw [d] at d''; cases d''
        | ns b k => have hb' : b = a := hb; subst hb'; obtain ⟨m, _, n2, _⟩ := S; exact ⟨_, n2⟩
    · exact ht.at fun o e => by rw [off _ hb]; exact e
  refine ⟨fun b o' e' => ?_, fun t ht => liveO t (I.live t ht), fun j w e' => ?_, fun j o' e' => ?_, I.len, I.apart, I.nodup, I.sep, I.fresh, I.freshS⟩
  · rw [off b fun q => by rw [q, I.freshS s hsl] at e'; cases e']
    exact I.keep b o' e'
  · by_cases hj : i = j
    · subst hj
      by_cases hl : i < σ.v.length
      · simp only [List.getElem?_set_self hl, Option.some.injEq] at e'
        subst e'
        exact ⟨s, x, e, holds, r⟩
      · exfalso
        have : (σ.v.set i (some v))[i]? = none := by rw [List.getElem?_eq_none_iff, List.length_set]; omega
        rw [this] at e'; cases e'
    · simp only [List.getElem?_set_ne hj] at e'
      obtain ⟨t, y, e1, e2, e3⟩ := I.vars j w e'
      exact ⟨t, y, e1, other t y (pair_get Slot.Apart.symm I.apart e e1 hj) e2, e3⟩
  · obtain ⟨b, ob', e1, e2, e3⟩ := I.objs j o' e'
    exact ⟨b, ob', e1, by rw [off b fun q => I.sep s hsl (q ▸ List.mem_of_getElem? e1)]; exact e2, e3⟩
end Inv
end Mine

-- H1
namespace Mine

section
variable {α β : Type} {p : Program} {w : World} {n₀ : Nat} {ann : Option Value}

/-- n steps lead a tree from a state to its end -/
noncomputable def Goes (p : Program) (w : World) (n₀ : Nat) (ann : Option Value) (m : Sem α) (q : Pos) (s : Shared) (a : α) (q' : Pos) (s' : Shared) (n : Nat) : Prop :=
  ∀ (K : α → Sem Fin) (H : Value → Sem Fin) (gd : Bool → Bool) (lv : List Value → List Value) (c : Code) (f : Frame) (B : List Frame),
    segGo treeTable p w n₀ ann 1 n s ⟨m.wrap K H gd lv, c, q, f :: B⟩ = some (s', ⟨K a, c, q', f :: B⟩)

theorem segGo_add {tb : String → Option Builtin} {b : Nat} : ∀ {n m : Nat} {s s' : Shared} {t t' : Thread}, segGo tb p w n₀ ann b n s t = some (s', t') → segGo tb p w n₀ ann b (n + m) s t = segGo tb p w n₀ ann b m s' t'
  | 0, m, s, s', t, t', h => by
    obtain ⟨rfl, rfl⟩ : s = s' ∧ t = t' := by simpa [segGo] using h
    rw [Nat.zero_add]
  | n + 1, m, s, s', t, t', h => by
    rw [show n + 1 + m = n + m + 1 by omega]
    unfold segGo at h
    conv => lhs; unfold segGo
    cases he : endAt b t with
    | some f => rw [he] at h; cases h
    | none =>
      rw [he] at h
      cases hk : stepOk n₀ ann t with
      | false => rw [hk] at h; cases h
      | true =>
        rw [hk] at h
        cases hs : step (denote tb) p w s t with
        | halt o s₂ => rw [hs] at h; cases h
        | go s₂ t₂ => rw [hs] at h; exact segGo_add h

theorem segGo_one {tb : String → Option Builtin} {b n : Nat} {s s₂ : Shared} {t t₂ : Thread} {r : Option (Shared × Thread)} (e1 : endAt b t = none) (e2 : stepOk n₀ ann t = true) (e3 : step (denote tb) p w s t = .go s₂ t₂) (h : segGo tb p w n₀ ann b n s₂ t₂ = r) : segGo tb p w n₀ ann b (n + 1) s t = r := by
  unfold segGo
  rw [e1, e2, e3]
  exact h

theorem Goes.pure {a : α} {q : Pos} {s : Shared} : Goes p w n₀ ann (Sem.pure a) q s a q s 0 := fun _ _ _ _ _ _ _ => rfl
theorem Goes.bind' {m : Sem α} {f : α → Sem β} {q q₁ q₂ : Pos} {s s₁ s₂ : Shared} {a : α} {b : β} {n k : Nat} (h : Goes p w n₀ ann m q s a q₁ s₁ n) (h' : Goes p w n₀ ann (f a) q₁ s₁ b q₂ s₂ k) : Goes p w n₀ ann (m.bind f) q s b q₂ s₂ (n + k) := by
  intro K H gd lv c fr B
  rw [Sem.bind_eq_wrap, Sem.wrap_wrap]
  have := h (fun a => (f a).wrap K H gd lv) (fun e => (Sem.raise e).wrap K H gd lv) (fun g => gd (id g)) (fun l => lv (id l)) c fr B
  rw [segGo_add this]
  exact h' K H gd lv c fr B
theorem Goes.bind {m : Sem α} {f : α → Sem β} {q q₁ q₂ : Pos} {s s₁ s₂ : Shared} {a : α} {b : β} {n k : Nat} (h : Goes p w n₀ ann m q s a q₁ s₁ n) (h' : Goes p w n₀ ann (f a) q₁ s₁ b q₂ s₂ k) : Goes p w n₀ ann (m >>= f) q s b q₂ s₂ (n + k) := Goes.bind' h h'
theorem Goes.keep {m : Sem α} {l : List Value} {q q₁ : Pos} {s s₁ : Shared} {a : α} {n : Nat} (h : Goes p w n₀ ann m q s a q₁ s₁ n) : Goes p w n₀ ann (m.keep l) q s a q₁ s₁ n := by
  intro K H gd lv c fr B
  rw [Sem.keep_eq_wrap, Sem.wrap_wrap]
  exact h _ _ _ _ c fr B
theorem Goes.holding {m : Sem α} {l : List Value} {q q₁ : Pos} {s s₁ : Shared} {a : α} {n : Nat} (h : Goes p w n₀ ann m q s a q₁ s₁ n) : Goes p w n₀ ann (PySem.holding l m) q s a q₁ s₁ n := by
  unfold PySem.holding
  split
  · exact h
  · exact h.keep
theorem Goes.onRaise {m : Sem α} {x : Value → Sem Unit} {q q₁ : Pos} {s s₁ : Shared} {a : α} {n : Nat} (h : Goes p w n₀ ann m q s a q₁ s₁ n) : Goes p w n₀ ann (m.onRaise x) q s a q₁ s₁ n := by
  intro K H gd lv c fr B
  rw [Sem.onRaise_eq_wrap, Sem.wrap_wrap]
  exact h _ _ _ _ c fr B
theorem Goes.tryCatch {m : Sem α} {x : Value → Sem α} {q q₁ : Pos} {s s₁ : Shared} {a : α} {n : Nat} (h : Goes p w n₀ ann m q s a q₁ s₁ n) : Goes p w n₀ ann (m.tryCatch x) q s a q₁ s₁ n := by
  intro K H gd lv c fr B
  rw [Sem.tryCatch_eq_wrap, Sem.wrap_wrap]
  exact h _ _ _ _ c fr B

theorem Goes.rule {t : String} {k : Unit → Sem α} {q q' : Pos} {s s' : Shared} {a : α} {n : Nat} (h : Goes p w n₀ ann (k ()) q s a q' s' n) : Goes p w n₀ ann (Sem.rule t k) q s a q' s' (n + 1) :=
  fun K H gd lv c f B => segGo_one (by cases B <;> rfl) rfl rfl (h K H gd lv c f B)
theorem Goes.at {t : Pos} {k : Unit → Sem α} {q q' : Pos} {s s' : Shared} {a : α} {n : Nat} (h : Goes p w n₀ ann (k ()) t s a q' s' n) : Goes p w n₀ ann (Sem.at t k) q s a q' s' (n + 1) :=
  fun K H gd lv c f B => segGo_one (by cases B <;> rfl) rfl rfl (h K H gd lv c f B)
theorem Goes.point {l : List Value} {k : Unit → Sem α} {q q' : Pos} {s s' : Shared} {a : α} {n : Nat} (h : Goes p w n₀ ann (k ()) q s a q' s' n) : Goes p w n₀ ann (Sem.point l k) q s a q' s' (n + 1) :=
  fun K H gd lv c f B => segGo_one (by cases B <;> rfl) rfl rfl (h K H gd lv c f B)
theorem Goes.fresh {k : Tok → Sem α} {q q' : Pos} {s s' : Shared} {a : α} {n : Nat} (h : Goes p w n₀ ann (k s.toks) q { s with toks := s.toks + 1 } a q' s' n) : Goes p w n₀ ann (Sem.fresh k) q s a q' s' (n + 1) :=
  fun K H gd lv c f B => segGo_one (by cases B <;> rfl) rfl rfl (h K H gd lv c f B)
theorem Goes.ask {k : Setting → Sem α} {q q' : Pos} {s s' : Shared} {a : α} {n : Nat} (h : Goes p w n₀ ann (k ⟨p, w.params⟩) q s a q' s' n) : Goes p w n₀ ann (Sem.ask k) q s a q' s' (n + 1) :=
  fun K H gd lv c f B => segGo_one (by cases B <;> rfl) rfl rfl (h K H gd lv c f B)
theorem Goes.alloc {o : Obj} {k : Addr → Sem α} {q q' : Pos} {s s' : Shared} {a : α} {n : Nat} (h : Goes p w n₀ ann (k s.heap.objs.size) q { s with heap := s.heap.push o } a q' s' n) : Goes p w n₀ ann (Sem.alloc o k) q s a q' s' (n + 1) :=
  fun K H gd lv c f B => segGo_one (by cases B <;> rfl) rfl rfl (h K H gd lv c f B)
theorem Goes.load {x : Addr} {t : Option Value} {o : Obj} {k : Obj → Sem α} {q q' : Pos} {s s' : Shared} {a : α} {n : Nat} (ho : s.heap.get? x = some o) (h : Goes p w n₀ ann (k o) q s a q' s' n) : Goes p w n₀ ann (Sem.load x t k) q s a q' s' (n + 1) := by
  intro K H gd lv c f B
  refine segGo_one (s₂ := s) (t₂ := ⟨(k o).wrap K H gd lv, c, q, f :: B⟩) (by cases B <;> rfl) rfl ?_ (h K H gd lv c f B)
  obtain ⟨heap, gens, drawn, toks, os⟩ := s
  dsimp only at ho
  simp only [Sem.wrap, step, ho]
theorem Goes.update {x : Addr} {t : Option Value} {g : Obj → Obj} {k : Unit → Sem α} {q q' : Pos} {s s' : Shared} {a : α} {n : Nat} (ho : (s.heap.get? x).isSome = true) (hx : Nat.ble n₀ x = true) (h : Goes p w n₀ ann (k ()) q { s with heap := s.heap.update x g } a q' s' n) : Goes p w n₀ ann (Sem.update x t g k) q s a q' s' (n + 1) := by
  intro K H gd lv c f B
  refine segGo_one (s₂ := { s with heap := s.heap.update x g }) (t₂ := ⟨(k ()).wrap K H gd lv, c, q, f :: B⟩) (by cases B <;> rfl) ?_ ?_ (h K H gd lv c f B)
  · show (Thread.calm _ && (Nat.ble n₀ x || _ || _ || _)) = true
    rw [hx]; rfl
  · obtain ⟨heap, gens, drawn, toks, os⟩ := s
    dsimp only at ho
    simp only [Sem.wrap, step, ho, if_true]
theorem Goes.stack {k : List (Code × Pos) → Sem α} {q q' : Pos} {s s' : Shared} {a : α} {n : Nat} (h : ∀ l, Goes p w n₀ ann (k l) q s a q' s' n) : Goes p w n₀ ann (Sem.stack k) q s a q' s' (n + 1) :=
  fun K H gd lv c f B => segGo_one (by cases B <;> rfl) rfl rfl (h _ K H gd lv c f B)
theorem wrap_id (m : Sem α) : m.wrap Sem.pure Sem.raise id id = m := by
  induction m <;> simp only [Sem.wrap, id, *]
theorem Goes.call {cd : Code} {hd : Option Value} {g : Bool} {l : List Value} {k : Result → Sem α} {fl : Flow} {q q₁ q' : Pos} {s s₁ s' : Shared} {a : α} {n m : Nat} (h : Goes p w n₀ ann (denote treeTable cd) q s (.done fl) q₁ s₁ n) (h' : Goes p w n₀ ann (k (.ok fl)) q s₁ a q' s' m) :
    Goes p w n₀ ann (Sem.call cd hd g l k) q s a q' s' (n + 1 + m + 1) := by
  intro K H gd lv c f B
  obtain ⟨kept, e⟩ : ∃ kept, step (denote treeTable) p w s ⟨Sem.call cd hd (gd g) (lv l) fun x => (k x).wrap K H gd lv, c, q, f :: B⟩ = .go s ⟨denote treeTable cd, cd, q, .ret (fun x => (k x).wrap K H gd lv) hd (gd g) (lv l) c q kept :: f :: B⟩ := by
    obtain ⟨heap, gens, drawn, toks, os⟩ := s
    exact ⟨_, rfl⟩
  refine segGo_one (by cases B <;> rfl) rfl e ?_
  have h1 := h Sem.pure Sem.raise id id cd (.ret (fun x => (k x).wrap K H gd lv) hd (gd g) (lv l) c q kept) (f :: B)
  rw [wrap_id] at h1
  rw [show n + 1 + m = n + (1 + m) by omega, segGo_add h1, show 1 + m = m + 1 by omega]
  refine segGo_one (s₂ := s₁) (t₂ := ⟨(k (.ok fl)).wrap K H gd lv, c, q, f :: B⟩) rfl rfl ?_ (h' K H gd lv c f B)
  obtain ⟨heap, gens, drawn, toks, os⟩ := s₁
  rfl
end
end Mine

-- H2
namespace Mine
section
variable {α β : Type} {p : Program} {w : World} {n₀ : Nat} {ann : Option Value}

theorem Goes.call2 {cd c₂ : Code} {hd : Option Value} {g : Bool} {l : List Value} {k : Result → Sem α} {fl : Flow} {q q₁ q₂ q' : Pos} {s s₁ s₂ s' : Shared} {a : α} {n n' m : Nat} (h : Goes p w n₀ ann (denote treeTable cd) q s (.again c₂) q₁ s₁ n)
    (hc : ∀ b : List Frame, stepOk n₀ ann ⟨.pure (.again c₂), cd, q₁, b⟩ = true) (h₂ : Goes p w n₀ ann (denote treeTable c₂) q₁ s₁ (.done fl) q₂ s₂ n') (h' : Goes p w n₀ ann (k (.ok fl)) q s₂ a q' s' m) :
    Goes p w n₀ ann (Sem.call cd hd g l k) q s a q' s' (n + (n' + (m + 1) + 1) + 1) := by
  intro K H gd lv c f B
  obtain ⟨kept, e⟩ : ∃ kept, step (denote treeTable) p w s ⟨Sem.call cd hd (gd g) (lv l) fun x => (k x).wrap K H gd lv, c, q, f :: B⟩ = .go s ⟨denote treeTable cd, cd, q, .ret (fun x => (k x).wrap K H gd lv) hd (gd g) (lv l) c q kept :: f :: B⟩ := by
    obtain ⟨heap, gens, drawn, toks, os⟩ := s
    exact ⟨_, rfl⟩
  refine segGo_one (by cases B <;> rfl) rfl e ?_
  have h1 := h Sem.pure Sem.raise id id cd (.ret (fun x => (k x).wrap K H gd lv) hd (gd g) (lv l) c q kept) (f :: B)
  rw [wrap_id] at h1
  rw [segGo_add h1]
  have e2 : step (denote treeTable) p w s₁ ⟨.pure (.again c₂), cd, q₁, .ret (fun x => (k x).wrap K H gd lv) hd (gd g) (lv l) c q kept :: f :: B⟩ = .go s₁ ⟨denote treeTable c₂, c₂, q₁, .ret (fun x => (k x).wrap K H gd lv) hd (gd g) (lv l) c q (keptBy cd c₂ (lv l) kept) :: f :: B⟩ := by
    obtain ⟨heap, gens, drawn, toks, os⟩ := s₁
    exact step_again
  refine segGo_one rfl (hc _) e2 ?_
  have h2 := h₂ Sem.pure Sem.raise id id c₂ (.ret (fun x => (k x).wrap K H gd lv) hd (gd g) (lv l) c q (keptBy cd c₂ (lv l) kept)) (f :: B)
  rw [wrap_id] at h2
  rw [segGo_add h2]
  refine segGo_one (s₂ := s₂) (t₂ := ⟨(k (.ok fl)).wrap K H gd lv, c, q, f :: B⟩) rfl rfl ?_ (h' K H gd lv c f B)
  obtain ⟨heap, gens, drawn, toks, os⟩ := s₂
  rfl

theorem Goes.of_eq {m m' : Sem α} {q q' : Pos} {s s' : Shared} {a : α} {n : Nat} (e : m = m') (h : Goes p w n₀ ann m' q s a q' s' n) : Goes p w n₀ ann m q s a q' s' n := e ▸ h

theorem call_int_hash {i : Int} {t : Tok} {q : Pos} {s : Shared} : Goes p w n₀ ann (PySem.call (.builtin "int.__hash__") [.int i t]) q s (.int (rawHash i) s.toks) q { s with toks := s.toks + 1 } 4 := by
  have e1 : denote treeTable (.call (.builtin "int.__hash__") ⟨[.int i t], []⟩) = Sem.pure (.again (.builtin "int.__hash__" ⟨[.int i t], []⟩)) := by kernel_rfl
  have e2 : denote treeTable (.builtin "int.__hash__" ⟨[.int i t], []⟩) = Sem.fresh fun k => Sem.pure (.done (.ret (.int (rawHash i) k))) := by kernel_rfl
  refine Goes.call2 (n := 0) (n' := 1) (m := 0) (Goes.of_eq e1 .pure) (fun b => by kernel_rfl) (Goes.of_eq e2 (Goes.fresh .pure)) ?_
  exact Goes.pure

theorem hash_goes {i : Int} {t : Tok} {q : Pos} {s : Shared} : Goes p w n₀ ann (pyHash (.int i t)) q s (hashInt i) q { s with toks := s.toks + 1 } 5 := by
  have hr := rawHash_range i
  have e1 : specialOf (.int i t) "__hash__" = pure (some (.builtin "int.__hash__")) := slot_int_hash.lookup
  have hv : [Value.int i t].any Value.onHeap = false := rfl
  unfold pyHash
  show Goes p w n₀ ann (pyHashByItsType (.int i t)) _ _ _ _ _ _
  unfold pyHashByItsType
  refine Goes.bind (n := 0) (k := 5) (a := ()) (q₁ := q) (s₁ := s) (by rw [cRoomFor, if_neg (by rw [hv]; exact Bool.false_ne_true)]; exact .pure) ?_
  refine Goes.bind (n := 0) (k := 5) (q₁ := q) (s₁ := s) (Goes.of_eq e1 .pure) ?_
  dsimp only
  rw [if_neg (by rw [beq_builtin_none]; exact Bool.false_ne_true)]
  refine Goes.bind (n := 0) (k := 5) (q₁ := q) (s₁ := s) (Goes.of_eq e1 .pure) ?_
  show Goes p w n₀ ann (callSpecialIfBoundUnlessNone? (.int i t) "__hash__" _ >>= _) _ _ _ _ _ _
  refine Goes.bind (n := 5) (k := 0) (a := some (.int (rawHash i) s.toks)) (q₁ := q) (s₁ := { s with toks := s.toks + 1 }) ?_ ?_
  · simp only [callSpecialIfBoundUnlessNone?, bindSpecialIfBound?]
    refine Goes.holding (Goes.bind (n := 1) (k := 4) (a := some (.builtin "int.__hash__", [.int i t])) (q₁ := q) (s₁ := s) ?_ ?_)
    · refine Goes.bind (n := 0) (k := 1) (q₁ := q) (s₁ := s) (Goes.of_eq e1 .pure) ?_
      dsimp only
      rw [slot_int_hash.bind]
      refine Goes.ask ?_
      show Goes p w n₀ ann (if w.params.followText "special-get-raises" = true then _ else _) _ _ _ _ _ _
      split
      · exact .pure
      · exact Goes.tryCatch .pure
    · dsimp only
      rw [builtin_beq_none]
      exact Goes.bind (n := 4) (k := 0) call_int_hash .pure
  · show Goes p w n₀ ann (if (decide (-(2 : Int) ^ 63 ≤ rawHash i) && decide (rawHash i < 2 ^ 63)) = true then _ else _) _ _ _ _ _ _
    rw [if_pos (by rw [decide_eq_true hr.1, decide_eq_true hr.2]; rfl)]
    exact Goes.pure
end
end Mine

-- H3
namespace Mine

/-- a heap, and objects behind it -/
noncomputable def hp (H : Heap) (l : List Obj) : Heap := ⟨H.objs ++ l.toArray, H.life⟩
theorem hp_push (H : Heap) (l : List Obj) (o : Obj) : (hp H l).push o = hp H (l ++ [o]) := by
  unfold hp Heap.push
  simp
theorem hp_size (H : Heap) (l : List Obj) : (hp H l).objs.size = H.objs.size + l.length := by simp [hp]
theorem hp_get {H : Heap} {l : List Obj} {i : Nat} {o : Obj} (h : l[i]? = some o) (ha : o.isFreed = false) : (hp H l).get? (H.objs.size + i) = some o := by
  have e : (hp H l).objs[H.objs.size + i]? = some o := by
    unfold hp
    rw [Array.getElem?_append_right (Nat.le_add_right _ _)]
    simpa using h
  unfold Heap.get?
  rw [e]
  obtain ⟨c, d, dt, sl⟩ := o
  cases dt <;> first | rfl | cases ha
theorem mod_set {α : Type} (f : α → α) {o : α} : ∀ {l : List α} {i : Nat}, l[i]? = some o → l.modify i f = l.set i (f o)
  | [], _, h => by simp at h
  | x :: r, 0, h => by simp at h; subst h; rfl
  | x :: r, i + 1, h => by
    simp at h
    show x :: r.modify i f = x :: r.set i (f o)
    rw [mod_set f h]
theorem mod_app {α : Type} (f : α → α) {o : α} {l : List α} {i : Nat} (h : l[i]? = some o) : ∀ a : List α, (a ++ l).modify (a.length + i) f = a ++ l.set i (f o)
  | [] => by simpa using mod_set f h
  | x :: r => by
    rw [List.length_cons, show r.length + 1 + i = (r.length + i) + 1 by omega]
    show x :: (r ++ l).modify (r.length + i) f = x :: (r ++ l.set i (f o))
    rw [mod_app f h r]
theorem hp_update {H : Heap} {l : List Obj} {i : Nat} {o : Obj} (h : l[i]? = some o) (f : Obj → Obj) : (hp H l).update (H.objs.size + i) f = hp H (l.set i (f o)) := by
  show (⟨(H.objs ++ l.toArray).modify (H.objs.size + i) f, H.life⟩ : Heap) = ⟨H.objs ++ (l.set i (f o)).toArray, H.life⟩
  congr 1
  apply Array.ext'
  rw [Array.toList_modify, Array.toList_append, Array.toList_append, ← Array.length_toList, mod_app f h]

noncomputable def dictE (es : List DictEntry) : Obj := ⟨.type "dict", none, .dict es.toArray es.length, #[]⟩
theorem dictE_alive (es : List DictEntry) : (dictE es).isFreed = false := rfl

section
variable {p : Program} {w : World} {n₀ : Nat} {ann : Option Value} {H : Heap} {l : List Obj} {i : Nat} {es : List DictEntry} {q : Pos} {s : Shared}

theorem no_places {h : Int} (hh : ∀ e ∈ es, e.hash ≠ h) : placesWithHash es.toArray.size (fun i => es.toArray[i]?.map (·.hash)) h = [] := by
  unfold placesWithHash
  rw [List.filter_eq_nil_iff]
  intro j hj
  rw [List.mem_range] at hj
  simp only [List.size_toArray] at hj
  simp only [List.getElem?_toArray, List.getElem?_eq_getElem hj, Option.map_some, beq_iff_eq, Option.some.injEq]
  exact hh _ (List.getElem_mem hj)

theorem find_goes {k h : Int} {t : Tok} (hs : s.heap = hp H l) (hl : l[i]? = some (dictE es)) (hh : ∀ e ∈ es, e.hash ≠ h) : Goes p w n₀ ann (dictFind (H.objs.size + i) (.int k t) h) q s none q s 1 := by
  unfold dictFind
  refine Goes.holding (Goes.bind (n := 1) (k := 0) (a := es.toArray) (q₁ := q) (s₁ := s) ?_ ?_)
  · unfold dictEntries loadPart
    exact Goes.load (by rw [hs]; exact hp_get hl rfl) .pure
  · dsimp only
    rw [no_places hh]
    exact Goes.pure

theorem push_goes {part : Option Value} {e : DictEntry} (hs : s.heap = hp H l) (hl : l[i]? = some (dictE es)) (hn : Nat.ble n₀ (H.objs.size + i) = true) (hz : es.length ≤ 10000) :
    Goes p w n₀ ann (updateDictKeys (H.objs.size + i) (·.push e) part) q s () q { s with heap := hp H (l.set i (dictE (es ++ [e]))) } 3 := by
  unfold updateDictKeys loadPart updatePart lookBehind loadPart
  have e1 : Obj.mapDictKeys (fun x : Array DictEntry => x.push e) (dictE es) = dictE (es ++ [e]) := by
    unfold dictE Obj.mapDictKeys
    simp
  refine Goes.load (n := 2) (by rw [hs]; exact hp_get hl rfl) ?_
  refine Goes.update (n := 1) (by rw [hs, hp_get hl rfl]; rfl) hn ?_
  rw [hs, hp_update hl, e1]
  refine Goes.load (n := 0) (hp_get (List.getElem?_set_self (List.getElem?_eq_some_iff.mp hl).1) rfl) ?_
  have e2 : (dictE (es ++ [e])).data.pastItsLine = none := by
    show (if (es ++ [e]).toArray.size > sizeLine + 1 then some "dict:memory" else none) = none
    rw [if_neg]
    simp only [List.size_toArray, List.length_append, List.length_singleton, sizeLine_eq]
    omega
  refine Goes.of_eq (m' := pure ()) ?_ .pure
  simp only [Sem.bind]
  rw [e2]
end
end Mine

-- H4
namespace Mine
section
variable {p : Program} {w : World} {n₀ : Nat} {ann : Option Value} {H : Heap} {l : List Obj} {i : Nat} {es : List DictEntry} {q : Pos} {s : Shared}

theorem Goes.cast {α : Type} {m : Sem α} {q q' : Pos} {s s' : Shared} {a : α} {n n' : Nat} (h : Goes p w n₀ ann m q s a q' s' n) (e : n = n') : Goes p w n₀ ann m q s a q' s' n' := e ▸ h

theorem set_goes {k : Int} {t : Tok} {v : Value} (hs : s.heap = hp H l) (hl : l[i]? = some (dictE es)) (hn : Nat.ble n₀ (H.objs.size + i) = true) (hz : es.length ≤ 10000) (hh : ∀ e ∈ es, e.hash ≠ hashInt k) :
    Goes p w n₀ ann (dictSet (H.objs.size + i) (.int k t) v) q s () q { s with heap := hp H (l.set i (dictE (es ++ [⟨hashInt k, .int k t, v⟩]))), toks := s.toks + 1 } 10 := by
  unfold dictSet dictSetHashed
  refine Goes.holding (Goes.bind (n := 5) (k := 5) hash_goes (Goes.holding (Goes.bind (n := 1) (k := 4) (find_goes hs hl hh) ?_)))
  dsimp only
  refine Goes.bind (n := 1) (k := 3) (a := ()) (q₁ := q) (s₁ := { s with toks := s.toks + 1 }) (Goes.rule .pure) ?_
  exact push_goes (s := { s with toks := s.toks + 1 }) hs hl hn hz
theorem put_goes {k h : Int} {t : Tok} {v : Value} (hs : s.heap = hp H l) (hl : l[i]? = some (dictE es)) (hn : Nat.ble n₀ (H.objs.size + i) = true) (hz : es.length ≤ 10000) (hh : ∀ e ∈ es, e.hash ≠ h) :
    Goes p w n₀ ann (dictPut (H.objs.size + i) h (.int k t) v) q s () q { s with heap := hp H (l.set i (dictE (es ++ [⟨h, .int k t, v⟩]))) } 4 := by
  unfold dictPut
  exact Goes.bind (n := 1) (k := 3) (find_goes hs hl hh) (push_goes hs hl hn hz)

/-- a written pair of an int and a text -/
structure Pr where
  k : Int
  v : Str
noncomputable def Pr.entry (x : Pr) (t : Nat) : DictEntry := ⟨hashInt x.k, .int x.k t, .str x.v (t + 1)⟩
/-- the trees of a pair of the display -/
noncomputable def IsPair (pos : Pos) (x : Pr) (y : Sem Value × Sem Value) : Prop := y.1 = mkInt x.k ∧ y.2 = (mkText x.v >>= fun v => standAt pos >>= fun _ => pure v)
noncomputable def entriesFrom : Nat → List Pr → List DictEntry
  | _, [] => []
  | t, x :: r => x.entry t :: entriesFrom (t + 3) r
theorem entriesFrom_len : ∀ (t : Nat) (l : List Pr), (entriesFrom t l).length = l.length
  | _, [] => rfl
  | t, x :: r => by simp [entriesFrom, entriesFrom_len (t + 3) r]
/-- no hash twice -/
noncomputable def fresh (es : List DictEntry) : List DictEntry → Bool
  | [] => true
  | e :: r => es.all (fun x => x.hash != e.hash) && fresh (es ++ [e]) r

noncomputable def lastPos (pos q : Pos) : List Pr → Pos
  | [] => q
  | _ :: _ => pos

theorem pairs_goes {pos : Pos} (hn : Nat.ble n₀ (H.objs.size + i) = true) : ∀ {ps : List Pr} {ys : List (Sem Value × Sem Value)}, All2 (IsPair pos) ps ys → ∀ {es : List DictEntry} {l : List Obj} {s : Shared} {q : Pos}, s.heap = hp H l → l[i]? = some (dictE es) → es.length + ps.length ≤ 10000 → fresh es (entriesFrom s.toks ps) = true →
    Goes p w n₀ ann (forIn ys PUnit.unit fun x (_ : PUnit) => match x with
      | (k, v) => do
        let kv ← k
        let vv ← holding [kv] v
        holding [kv, vv] (dictSet (H.objs.size + i) kv vv)
        pure (ForInStep.yield PUnit.unit)) q s PUnit.unit (lastPos pos q ps) { s with heap := hp H (l.set i (dictE (es ++ entriesFrom s.toks ps))), toks := s.toks + 3 * ps.length } (13 * ps.length)
  | _, _, .nil, es, l, s, q, hs, hl, _, _ => by
    rw [List.forIn_nil]
    have e : ({ s with heap := hp H (l.set i (dictE (es ++ entriesFrom s.toks []))), toks := s.toks + 3 * ([] : List Pr).length } : Shared) = s := by
      have : l.set i (dictE es) = l := List.ext_getElem? fun j => by
        rw [List.getElem?_set]
        split
        · rename_i h; subst h
          rw [hl, if_pos (List.getElem?_eq_some_iff.mp hl).1]
        · rfl
      simp [entriesFrom, this, ← hs]
    rw [e]
    exact Goes.pure
  | x :: ps, y :: ys, .cons hx hr, es, l, s, q, hs, hl, hz, hf => by
    obtain ⟨y1, y2⟩ := y
    obtain ⟨rfl, rfl⟩ := hx
    rw [List.forIn_cons]
    unfold entriesFrom fresh at hf
    rw [Bool.and_eq_true] at hf
    have hh : ∀ e ∈ es, e.hash ≠ hashInt x.k := fun e he => by
      have := List.all_eq_true.mp hf.1 e he
      exact fun q => by rw [show (x.entry s.toks).hash = hashInt x.k from rfl, q] at this; simp at this
    have hi := (List.getElem?_eq_some_iff.mp hl).1
    have ih := pairs_goes hn hr (es := es ++ [x.entry s.toks]) (l := l.set i (dictE (es ++ [x.entry s.toks]))) (s := { s with heap := hp H (l.set i (dictE (es ++ [x.entry s.toks]))), toks := s.toks + 3 }) (q := pos) rfl (List.getElem?_set_self hi)
      (by simp only [List.length_append, List.length_cons, List.length_nil] at hz ⊢; omega) hf.2
    have e1 : lastPos pos pos ps = pos := by cases ps <;> rfl
    rw [e1] at ih
    have e2 : ({ s with heap := hp H ((l.set i (dictE (es ++ [x.entry s.toks]))).set i (dictE (es ++ [x.entry s.toks] ++ entriesFrom (s.toks + 3) ps))), toks := s.toks + 3 + 3 * ps.length } : Shared) =
        { s with heap := hp H (l.set i (dictE (es ++ entriesFrom s.toks (x :: ps)))), toks := s.toks + 3 * (x :: ps).length } := by
      rw [List.set_set]
      simp only [entriesFrom, List.append_assoc, List.singleton_append, List.length_cons]
      congr 1
      omega
    have ih' := ih
    dsimp only at ih'
    rw [e2] at ih'
    refine Goes.cast (n := 13 + 13 * ps.length) ?_ (by simp only [List.length_cons]; omega)
    refine Goes.bind (n := 13) (k := 13 * ps.length) (a := ForInStep.yield PUnit.unit) (q₁ := pos) (s₁ := { s with heap := hp H (l.set i (dictE (es ++ [x.entry s.toks]))), toks := s.toks + 3 }) ?_ ih'
    refine Goes.bind (n := 1) (k := 12) (a := .int x.k s.toks) (q₁ := q) (s₁ := { s with toks := s.toks + 1 }) (Goes.fresh .pure) ?_
    refine Goes.bind (n := 2) (k := 10) (a := .str x.v (s.toks + 1)) (q₁ := pos) (s₁ := { s with toks := s.toks + 2 }) (Goes.holding (Goes.bind (n := 1) (k := 1) (Goes.fresh .pure) (Goes.at .pure))) ?_
    refine Goes.bind (n := 10) (k := 0) (Goes.holding (set_goes (s := { s with toks := s.toks + 2 }) hs hl hn (by simp only [List.length_cons] at hz; omega) hh)) .pure
end
end Mine

-- H5
namespace Mine
section
variable {p : Program} {w : World} {n₀ : Nat} {ann : Option Value} {H : Heap} {l : List Obj} {i : Nat} {es : List DictEntry} {q : Pos} {s : Shared}

theorem set_same {l : List Obj} {i : Nat} {o : Obj} (hl : l[i]? = some o) : l.set i o = l := List.ext_getElem? fun j => by
  rw [List.getElem?_set]
  split
  · rename_i h; subst h
    rw [hl, if_pos (List.getElem?_eq_some_iff.mp hl).1]
  · rfl

/-- pairs that are evaluated all before the first is put -/
noncomputable def entriesS : Nat → List Pr → List DictEntry
  | _, [] => []
  | t, x :: r => x.entry t :: entriesS (t + 2) r
noncomputable def valsOf (es : List DictEntry) : List (Value × Value) := es.map fun e => (e.key, e.val)
theorem entriesS_len : ∀ (t : Nat) (l : List Pr), (entriesS t l).length = l.length
  | _, [] => rfl
  | t, x :: r => by simp [entriesS, entriesS_len (t + 2) r]

theorem evals_goes {pos : Pos} : ∀ {ps : List Pr} {ys : List (Sem Value × Sem Value)}, All2 (IsPair pos) ps ys → ∀ {s : Shared} {q : Pos},
    Goes p w n₀ ann (evalPairs ys) q s (valsOf (entriesS s.toks ps)) (lastPos pos q ps) { s with toks := s.toks + 2 * ps.length } (3 * ps.length)
  | _, _, .nil, s, q => by
    show Goes p w n₀ ann (Sem.pure []) q s [] q s 0
    exact Goes.pure
  | x :: ps, y :: ys, .cons hx hr, s, q => by
    obtain ⟨y1, y2⟩ := y
    obtain ⟨rfl, rfl⟩ := hx
    have ih := evals_goes hr (s := { s with toks := s.toks + 2 }) (q := pos)
    have e1 : lastPos pos pos ps = pos := by cases ps <;> rfl
    rw [e1] at ih
    have e2 : ({ s with toks := s.toks + 2 + 2 * ps.length } : Shared) = { s with toks := s.toks + 2 * (x :: ps).length } := by
      congr 1; simp only [List.length_cons]; omega
    have ih' := ih
    dsimp only at ih'
    rw [e2] at ih'
    unfold evalPairs
    refine Goes.cast (n := 1 + (2 + (3 * ps.length + 0))) ?_ (by simp only [List.length_cons]; omega)
    refine Goes.bind (n := 1) (k := 2 + (3 * ps.length + 0)) (a := .int x.k s.toks) (q₁ := q) (s₁ := { s with toks := s.toks + 1 }) (Goes.fresh .pure) ?_
    refine Goes.bind (n := 2) (k := 3 * ps.length + 0) (a := .str x.v (s.toks + 1)) (q₁ := pos) (s₁ := { s with toks := s.toks + 2 }) (Goes.holding (Goes.bind (n := 1) (k := 1) (Goes.fresh .pure) (Goes.at .pure))) ?_
    exact Goes.bind (n := 3 * ps.length) (k := 0) (Goes.holding ih') .pure

/-- the entries as the model hashes them -/
noncomputable def Hashed (e : DictEntry) : Prop := ∃ k t, e.key = .int k t ∧ e.hash = hashInt k

theorem sets_goes (hn : Nat.ble n₀ (H.objs.size + i) = true) : ∀ {E : List DictEntry}, (∀ e ∈ E, Hashed e) → ∀ {es : List DictEntry} {l : List Obj} {s : Shared}, s.heap = hp H l → l[i]? = some (dictE es) → es.length + E.length ≤ 10000 → fresh es E = true →
    Goes p w n₀ ann (forIn (valsOf E) PUnit.unit fun x (_ : PUnit) => match x with
      | (k, v) => do
        dictSet (H.objs.size + i) k v
        pure (ForInStep.yield PUnit.unit)) q s PUnit.unit q { s with heap := hp H (l.set i (dictE (es ++ E))), toks := s.toks + E.length } (10 * E.length)
  | [], _, es, l, s, hs, hl, _, _ => by
    show Goes p w n₀ ann (forIn [] _ _) _ _ _ _ _ _
    rw [List.forIn_nil]
    have e : ({ s with heap := hp H (l.set i (dictE (es ++ []))), toks := s.toks + ([] : List DictEntry).length } : Shared) = s := by
      rw [List.append_nil, set_same hl, ← hs]; rfl
    rw [e]
    exact Goes.pure
  | ⟨h, k, v⟩ :: E, hE, es, l, s, hs, hl, hz, hf => by
    obtain ⟨k, t, rfl, e0⟩ := hE _ (List.Mem.head _)
    dsimp only at e0
    subst e0
    show Goes p w n₀ ann (forIn ((.int k t, v) :: valsOf E) _ _) _ _ _ _ _ _
    rw [List.forIn_cons]
    unfold fresh at hf
    rw [Bool.and_eq_true] at hf
    have hh : ∀ e ∈ es, e.hash ≠ hashInt k := fun e he => by
      have := List.all_eq_true.mp hf.1 e he
      exact fun q => by rw [q] at this; simp at this
    have hi := (List.getElem?_eq_some_iff.mp hl).1
    have ih := sets_goes hn (E := E) (fun e he => hE e (List.Mem.tail _ he)) (es := es ++ [⟨hashInt k, .int k t, v⟩]) (l := l.set i (dictE (es ++ [⟨hashInt k, .int k t, v⟩]))) (s := { s with heap := hp H (l.set i (dictE (es ++ [⟨hashInt k, .int k t, v⟩]))), toks := s.toks + 1 }) rfl (List.getElem?_set_self hi)
      (by simp only [List.length_append, List.length_cons, List.length_nil] at hz ⊢; omega) hf.2
    have e2 : ({ s with heap := hp H ((l.set i (dictE (es ++ [⟨hashInt k, .int k t, v⟩]))).set i (dictE (es ++ [⟨hashInt k, .int k t, v⟩] ++ E))), toks := s.toks + 1 + E.length } : Shared) =
        { s with heap := hp H (l.set i (dictE (es ++ ⟨hashInt k, .int k t, v⟩ :: E))), toks := s.toks + (⟨hashInt k, .int k t, v⟩ :: E : List DictEntry).length } := by
      rw [List.set_set]
      simp only [List.append_assoc, List.singleton_append, List.length_cons]
      congr 1
      omega
    have ih' := ih
    dsimp only at ih'
    rw [e2] at ih'
    refine Goes.cast (n := 10 + 10 * E.length) ?_ (by simp only [List.length_cons]; omega)
    refine Goes.bind (n := 10) (k := 10 * E.length) (a := ForInStep.yield PUnit.unit) (q₁ := q) (s₁ := { s with heap := hp H (l.set i (dictE (es ++ [⟨hashInt k, .int k t, v⟩]))), toks := s.toks + 1 }) ?_ ih'
    exact Goes.bind (n := 10) (k := 0) (set_goes hs hl hn (by simp only [List.length_cons] at hz; omega) hh) .pure

theorem entriesFrom_hashed : ∀ (t : Nat) (l : List Pr), ∀ e ∈ entriesFrom t l, Hashed e
  | _, [], _, h => by cases h
  | t, x :: r, e, h => by
    rcases List.mem_cons.mp h with rfl | h
    · exact ⟨x.k, t, rfl, rfl⟩
    · exact entriesFrom_hashed (t + 3) r e h
theorem entriesS_hashed : ∀ (t : Nat) (l : List Pr), ∀ e ∈ entriesS t l, Hashed e
  | _, [], _, h => by cases h
  | t, x :: r, e, h => by
    rcases List.mem_cons.mp h with rfl | h
    · exact ⟨x.k, t, rfl, rfl⟩
    · exact entriesS_hashed (t + 2) r e h

/-- a sub-display's entries -/
noncomputable def subEs (t : Nat) (ps : List Pr) : List DictEntry := if ps.length ≤ 15 then entriesS t ps else entriesFrom t ps
theorem subEs_hashed (t : Nat) (ps : List Pr) : ∀ e ∈ subEs t ps, Hashed e := by
  unfold subEs; split
  · exact entriesS_hashed t ps
  · exact entriesFrom_hashed t ps

theorem sub_goes {pos : Pos} {ps : List Pr} {ys : List (Sem Value × Sem Value)} (hy : All2 (IsPair pos) ps ys) (hs : s.heap = hp H l) (hn : Nat.ble n₀ (H.objs.size + l.length) = true) (hz : ps.length ≤ 10000) (hf : fresh [] (subEs s.toks ps) = true) :
    ∃ n, n ≤ 13 * ps.length + 2 ∧ Goes p w n₀ ann (subDict ys) q s (H.objs.size + l.length) (lastPos pos q ps) { s with heap := hp H (l ++ [dictE (subEs s.toks ps)]), toks := s.toks + 3 * ps.length } n := by
  have hlen := hy.length
  have hl : (l ++ [dictE []])[l.length]? = some (dictE []) := by simp
  have hset : ∀ o, (l ++ [dictE []]).set l.length o = l ++ [o] := fun o => by simp
  unfold subEs at hf ⊢
  unfold subDict
  split at hf
  · rename_i h15
    refine ⟨1 + (3 * ps.length + 10 * ps.length), by omega, ?_⟩
    refine Goes.cast (n := 1 + (3 * ps.length + (10 * ps.length + 0) + 0)) ?_ (by omega)
    refine Goes.bind (n := 1) (k := 3 * ps.length + (10 * ps.length + 0) + 0) (a := H.objs.size + l.length) (q₁ := q) (s₁ := { s with heap := hp H (l ++ [dictE []]) }) ?_ ?_
    · refine Goes.alloc (n := 0) ?_
      rw [hs, hp_push, hp_size]
      exact Goes.pure
    · refine Goes.bind (n := 3 * ps.length + (10 * ps.length + 0)) (k := 0) (a := ()) (Goes.holding ?_) .pure
      rw [if_pos (by rw [← hlen]; exact h15)]
      refine Goes.bind (n := 3 * ps.length) (k := 10 * ps.length + 0) (evals_goes hy) (Goes.holding ?_)
      have h1 := sets_goes (p := p) (w := w) (ann := ann) (q := lastPos pos q ps) hn (E := entriesS s.toks ps) (entriesS_hashed _ _) (es := []) (l := l ++ [dictE []]) (s := { s with heap := hp H (l ++ [dictE []]), toks := s.toks + 2 * ps.length }) rfl hl (by rw [entriesS_len]; simpa using hz) hf
      rw [entriesS_len, hset, List.nil_append] at h1
      have e2 : ({ s with heap := hp H (l ++ [dictE (entriesS s.toks ps)]), toks := s.toks + 2 * ps.length + ps.length } : Shared) = { s with heap := hp H (l ++ [dictE (entriesS s.toks ps)]), toks := s.toks + 3 * ps.length } := by congr 1; omega
      dsimp only at h1
      rw [e2] at h1
      rw [if_pos h15]
      exact Goes.bind (n := 10 * ps.length) (k := 0) h1 .pure
  · rename_i h15
    refine ⟨1 + (1 + 13 * ps.length), by omega, ?_⟩
    refine Goes.cast (n := 1 + (1 + (13 * ps.length + 0) + 0)) ?_ (by omega)
    refine Goes.bind (n := 1) (k := 1 + (13 * ps.length + 0) + 0) (a := H.objs.size + l.length) (q₁ := q) (s₁ := { s with heap := hp H (l ++ [dictE []]) }) ?_ ?_
    · refine Goes.alloc (n := 0) ?_
      rw [hs, hp_push, hp_size]
      exact Goes.pure
    · refine Goes.bind (n := 1 + (13 * ps.length + 0)) (k := 0) (a := ()) (Goes.holding ?_) .pure
      rw [if_neg (by rw [← hlen]; exact h15)]
      refine Goes.bind (n := 1) (k := 13 * ps.length + 0) (a := ()) (q₁ := q) (s₁ := { s with heap := hp H (l ++ [dictE []]) }) (Goes.rule .pure) ?_
      have h1 := pairs_goes (p := p) (w := w) (n₀ := n₀) (ann := ann) (pos := pos) hn hy (es := []) (l := l ++ [dictE []]) (s := { s with heap := hp H (l ++ [dictE []]) }) (q := q) rfl hl (by simpa using hz) hf
      rw [hset, List.nil_append] at h1
      rw [if_neg h15]
      exact Goes.bind (n := 13 * ps.length) (k := 0) h1 .pure
end
end Mine

-- H6
namespace Mine
section
variable {p : Program} {w : World} {n₀ : Nat} {ann : Option Value} {H : Heap} {l : List Obj} {i j : Nat} {es E : List DictEntry} {q : Pos} {s : Shared}

theorem loop_goes {f : Nat → PUnit → Sem (ForInStep PUnit)} (hf : ∀ (k : Nat) (e : DictEntry) (s : Shared), E[k]? = some e → s.heap = hp H (l.set i (dictE (es ++ E.take k))) → Goes p w n₀ ann (f k PUnit.unit) q s (ForInStep.yield PUnit.unit) q { s with heap := hp H (l.set i (dictE (es ++ E.take (k + 1)))) } 6) :
    ∀ (m k : Nat), k + m = E.length → ∀ s : Shared, s.heap = hp H (l.set i (dictE (es ++ E.take k))) → Goes p w n₀ ann (forIn (List.range' k m) PUnit.unit f) q s PUnit.unit q { s with heap := hp H (l.set i (dictE (es ++ E))) } (6 * m)
  | 0, k, hk, s, hs => by
    rw [List.range'_zero, List.forIn_nil]
    have e : E.take k = E := List.take_of_length_le (by omega)
    rw [e] at hs
    have e2 : ({ s with heap := hp H (l.set i (dictE (es ++ E))) } : Shared) = s := by rw [← hs]
    rw [e2]
    exact Goes.pure
  | m + 1, k, hk, s, hs => by
    rw [List.range'_succ, List.forIn_cons]
    have hlt : k < E.length := by omega
    refine Goes.cast (n := 6 + 6 * m) ?_ (by omega)
    exact Goes.bind (n := 6) (k := 6 * m) (hf k E[k] s (List.getElem?_eq_getElem hlt) hs) (loop_goes hf m (k + 1) (by omega) _ rfl)

theorem fresh_at : ∀ {E es : List DictEntry}, fresh es E = true → ∀ {k : Nat} {e : DictEntry}, E[k]? = some e → ∀ x ∈ es ++ E.take k, x.hash ≠ e.hash
  | [], _, _, _, _, h, _, _ => by simp at h
  | y :: E, es, hf, 0, e, h, x, hx => by
    simp at h; subst h
    unfold fresh at hf
    rw [Bool.and_eq_true] at hf
    have := List.all_eq_true.mp hf.1 x (by simpa using hx)
    exact fun q => by rw [q] at this; simp at this
  | y :: E, es, hf, k + 1, e, h, x, hx => by
    unfold fresh at hf
    rw [Bool.and_eq_true] at hf
    simp at h
    exact fresh_at hf.2 h x (by simpa using hx)

theorem entries_goes {part : Option Value} (hs : s.heap = hp H l) (hl : l[i]? = some (dictE es)) : Goes p w n₀ ann (dictEntries (H.objs.size + i) part) q s es.toArray q s 1 := by
  unfold dictEntries loadPart
  exact Goes.load (by rw [hs]; exact hp_get hl rfl) .pure
theorem epoch_goes {part : Option Value} (hs : s.heap = hp H l) (hl : l[i]? = some (dictE es)) : Goes p w n₀ ann (dictEpoch (H.objs.size + i) part) q s es.length q s 1 := by
  unfold dictEpoch loadPart
  exact Goes.load (by rw [hs]; exact hp_get hl rfl) .pure
theorem type_goes (hs : s.heap = hp H l) (hl : l[i]? = some (dictE es)) : Goes p w n₀ ann (typeOf (.ref (H.objs.size + i))) q s (.type "dict") q s 1 := by
  unfold typeOf loadPart
  exact Goes.load (by rw [hs]; exact hp_get hl rfl) .pure

theorem merge_goes (hs : s.heap = hp H l) (hi : l[i]? = some (dictE es)) (hj : l[j]? = some (dictE E)) (hij : i ≠ j) (hne : es ≠ []) (hn : Nat.ble n₀ (H.objs.size + i) = true) (h1 : H.objs.size + j ≠ 1) (hz : es.length + E.length ≤ 10000) (hE : ∀ e ∈ E, Hashed e) (hf : fresh es E = true) :
    Goes p w n₀ ann (mergeMapping (H.objs.size + i) (.ref (H.objs.size + j)) false) q s () q { s with heap := hp H (l.set i (dictE (es ++ E))) } (5 + 6 * E.length) := by
  have hil := (List.getElem?_eq_some_iff.mp hi).1
  unfold mergeMapping
  refine Goes.cast (n := 1 + (1 + (1 + (1 + (1 + (6 * E.length + 0)))))) ?_ (by omega)
  refine Goes.bind (n := 1) (k := 1 + (1 + (1 + (1 + (6 * E.length + 0))))) (a := true) (q₁ := q) (s₁ := s) ?_ ?_
  · unfold isInstance
    exact Goes.bind (n := 1) (k := 0) (type_goes hs hj) (Goes.of_eq isSubtype_dict_dict .pure)
  dsimp only
  rw [if_pos rfl]
  refine Goes.bind (n := 1) (k := 1 + (1 + (1 + (6 * E.length + 0)))) (a := some (.builtin "dict.__iter__")) (q₁ := q) (s₁ := s) ?_ ?_
  · unfold specialOf
    exact Goes.bind (n := 1) (k := 0) (type_goes hs hj) (Goes.of_eq F.slot_dict_iter.lookup .pure)
  have e0 : (some (Value.builtin "dict.__iter__") == some (Value.builtin "dict.__iter__")) = true := by kernel_rfl
  refine Goes.cast (n := 0 + (1 + (1 + (1 + (6 * E.length + 0))))) ?_ (by omega)
  refine Goes.bind (n := 0) (k := 1 + (1 + (1 + (6 * E.length + 0)))) (a := true) (q₁ := q) (s₁ := s) (by rw [e0]; exact .pure) ?_
  dsimp only
  rw [if_neg (by
    intro h
    have := beq_iff_eq.mp h
    exact h1 this)]
  refine Goes.bind (n := 1) (k := 1 + (1 + (6 * E.length + 0))) (entries_goes hs hi) ?_
  rw [if_neg (by
    intro h
    cases es with
    | nil => exact hne rfl
    | cons => simp at h)]
  refine Goes.bind (n := 1) (k := 1 + (6 * E.length + 0)) (entries_goes hs hj) ?_
  refine Goes.bind (n := 1) (k := 6 * E.length + 0) (epoch_goes hs hj) ?_
  refine Goes.bind (n := 6 * E.length) (k := 0) (a := PUnit.unit) ?_ .pure
  rw [List.size_toArray, List.range_eq_range']
  refine loop_goes (E := E) (es := es) (l := l) (i := i) (fun k e s' he hs' => ?_) E.length 0 (by omega) s (by rw [List.take_zero, List.append_nil, set_same hi]; exact hs)
  have hj' : (l.set i (dictE (es ++ E.take k)))[j]? = some (dictE E) := by rw [List.getElem?_set_ne hij]; exact hj
  have hi' : (l.set i (dictE (es ++ E.take k)))[i]? = some (dictE (es ++ E.take k)) := List.getElem?_set_self hil
  obtain ⟨kk, t, e1, e2⟩ := hE e (List.mem_of_getElem? he)
  obtain ⟨h, key, v⟩ := e
  dsimp only at e1 e2
  subst e1
  refine Goes.bind (n := 1) (k := 5) (entries_goes hs' hj') ?_
  have e3 : E.toArray[k]? = some ⟨h, .int kk t, v⟩ := by simpa using he
  rw [e3]
  dsimp only
  have et : es ++ E.take (k + 1) = es ++ E.take k ++ [⟨h, .int kk t, v⟩] := by
    rw [List.append_assoc]
    congr 1
    have hk := (List.getElem?_eq_some_iff.mp he)
    rw [List.take_succ, he]; rfl
  have hlen : (es ++ E.take k).length ≤ 10000 := by rw [List.length_append, List.length_take]; omega
  refine Goes.bind (n := 4) (k := 1) (a := ()) (q₁ := q) (s₁ := { s' with heap := hp H (l.set i (dictE (es ++ E.take (k + 1)))) }) (Goes.holding ?_) ?_
  · rw [if_neg (by simp)]
    have := put_goes (p := p) (w := w) (ann := ann) (q := q) (v := v) (t := t) hs' hi' hn hlen (k := kk) (h := h) (fresh_at hf he)
    rw [List.set_set, ← et] at this
    exact this
  · have hj2 : (l.set i (dictE (es ++ E.take (k + 1))))[j]? = some (dictE E) := by rw [List.getElem?_set_ne hij]; exact hj
    refine Goes.bind (n := 1) (k := 0) (epoch_goes (s := { s' with heap := hp H (l.set i (dictE (es ++ E.take (k + 1)))) }) rfl hj2) ?_
    rw [if_neg (by simp)]
    exact Goes.pure
end
end Mine

-- H7
namespace Mine

noncomputable def flushT (run : List (Sem Value × Sem Value)) (main : Option Addr) : Sem (Option Addr) := do
  if run.isEmpty then return main
  match main with
  | none => return some (← subDict run)
  | some d =>
    let sub ← holding [.ref d] (subDict run)
    (holding [.ref d, .ref sub] (mergeMapping d (.ref sub) false)).onRaise fun x => do let _ ← holding [.ref d, x] (runValue (.builtin "proto.let_go" {}))
    return some d
noncomputable def turnT (x : Option (Sem Value) × Sem Value) (r : Option Addr × List (Sem Value × Sem Value)) : Sem (ForInStep (Option Addr × List (Sem Value × Sem Value))) :=
  match x.1 with
  | some k =>
    if (r.2 ++ [(k, x.2)]).length == 17 then do
      let main ← flushT (r.2 ++ [(k, x.2)]) r.1
      pure (.yield (main, []))
    else pure (.yield (r.1, r.2 ++ [(k, x.2)]))
  | none => Sem.unsupported "none of these"
noncomputable def opened (ys : List (Sem Value × Sem Value)) : List (Option (Sem Value) × Sem Value) := ys.map fun y => (some y.1, y.2)

theorem forIn_same {α β : Type} {f g : α → β → Sem (ForInStep β)} : ∀ {l : List α}, (∀ x ∈ l, ∀ b, f x b = g x b) → ∀ b, forIn l b f = forIn l b g
  | [], _, b => by rw [List.forIn_nil, List.forIn_nil]
  | x :: r, h, b => by
    rw [List.forIn_cons, List.forIn_cons, h x (List.Mem.head _) b]
    congr 1
    funext y
    cases y with
    | done => rfl
    | yield c => exact forIn_same (fun x hx b => h x (List.Mem.tail _ hx) b) c

theorem display_eq (ys : List (Sem Value × Sem Value)) : dictDisplay (opened ys) = (do
    let r ← forIn (opened ys) ((none, []) : Option Addr × List (Sem Value × Sem Value)) turnT
    match ← flushT r.2 r.1 with
    | some d => pure (.ref d)
    | none => newDict) := by
  unfold dictDisplay
  dsimp only
  rw [forIn_same (g := turnT) (fun x hx b => ?_)]
  · rfl
  · obtain ⟨y, _, rfl⟩ := List.mem_map.mp hx
    rfl

structure DS where
  t : Nat
  main : Option (List DictEntry)
  subs : List (List DictEntry)
noncomputable def DS.objs (d : DS) : List Obj := match d.main with
  | none => []
  | some m => dictE m :: d.subs.map dictE
noncomputable def DS.addr (N : Nat) (d : DS) : Option Addr := match d.main with
  | none => none
  | some _ => some N
/-- a run of pairs is put into the dict -/
noncomputable def DS.flush (d : DS) (c : List Pr) : Option DS :=
  if c.isEmpty then none else
  match d.main with
  | none => if fresh [] (subEs d.t c) = true ∧ c.length ≤ 1000 ∧ d.subs.isEmpty = true then some ⟨d.t + 3 * c.length, some (subEs d.t c), []⟩ else none
  | some m => if fresh [] (subEs d.t c) = true ∧ fresh m (subEs d.t c) = true ∧ c.length ≤ 1000 ∧ m.length ≤ 5000 ∧ m.isEmpty = false then some ⟨d.t + 3 * c.length, some (m ++ subEs d.t c), d.subs ++ [subEs d.t c]⟩ else none
noncomputable def runs : List Pr → List Pr → DS → Option (DS × List Pr)
  | [], run, d => some (d, run)
  | x :: r, run, d => if (run ++ [x]).length = 17 then match d.flush (run ++ [x]) with
    | some d' => runs r [] d'
    | none => none
    else runs r (run ++ [x]) d
noncomputable def display (t : Nat) (ps : List Pr) : Option DS := match runs ps [] ⟨t, none, []⟩ with
  | some (d, run) => d.flush run
  | none => none

section
variable {p : Program} {w : World} {n₀ : Nat} {ann : Option Value} {H : Heap} {q : Pos} {s : Shared}

theorem flush_goes {pos : Pos} {d d' : DS} {c : List Pr} {ys : List (Sem Value × Sem Value)} (hy : All2 (IsPair pos) c ys) (hs : s.heap = hp H d.objs) (ht : s.toks = d.t) (hn : ∀ k, Nat.ble n₀ (H.objs.size + k) = true) (h1 : 1 < H.objs.size) (e : d.flush c = some d') :
    ∃ n, n ≤ 26 * c.length ∧ Goes p w n₀ ann (flushT ys (d.addr H.objs.size)) q s (d'.addr H.objs.size) pos { s with heap := hp H d'.objs, toks := d'.t } n ∧ d'.main.isSome = true := by
  have hlen := hy.length
  have hsub : ∀ t, (subEs t c).length = c.length := fun t => by unfold subEs; split <;> simp [entriesS_len, entriesFrom_len]
  unfold DS.flush at e
  split at e
  · cases e
  · rename_i hc
    have hc1 : 1 ≤ c.length := by cases c with
      | nil => exact absurd rfl hc
      | cons => simp
    have hyn : ys.isEmpty = false := by cases ys with
      | nil => rw [List.length_nil] at hlen; omega
      | cons => rfl
    have hpos : lastPos pos q c = pos := by cases c with
      | nil => exact absurd rfl hc
      | cons => rfl
    unfold flushT
    rw [hyn]
    split at e
    · rename_i hm
      split at e
      · rename_i hf
        obtain ⟨hf, hz, hsb⟩ := hf
        cases e
        have ho : d.objs = [] := by unfold DS.objs; rw [hm]
        rw [ho] at hs
        obtain ⟨n, hn', g⟩ := sub_goes (p := p) (w := w) (ann := ann) (q := q) hy hs (hn _) (by omega) (by rw [ht]; exact hf)
        have ea : d.addr H.objs.size = none := by unfold DS.addr; rw [hm]
        rw [hpos] at g
        rw [ea]
        have hb : n ≤ 26 * c.length := by omega
        refine ⟨n, hb, ?_, rfl⟩
        rw [if_neg (by simp)]
        refine Goes.bind (n := n) (k := 0) (a := H.objs.size) (q₁ := pos) ?_ .pure
        rw [ht] at g
        simpa [DS.objs] using g
      · cases e
    · rename_i m hm
      split at e
      · rename_i hf
        obtain ⟨hf, hf2, hz, hmz, hme⟩ := hf
        cases e
        have ho : d.objs = dictE m :: d.subs.map dictE := by unfold DS.objs; rw [hm]
        rw [ho] at hs
        obtain ⟨n, hn', g⟩ := sub_goes (p := p) (w := w) (ann := ann) (q := q) hy hs (hn _) (by omega) (by rw [ht]; exact hf)
        have ea : d.addr H.objs.size = some H.objs.size := by unfold DS.addr; rw [hm]
        rw [hpos] at g
        rw [ea]
        have hb : n + (5 + 6 * c.length) ≤ 26 * c.length := by omega
        refine ⟨n + (5 + 6 * c.length), hb, ?_, rfl⟩
        rw [if_neg (by simp)]
        refine Goes.cast (n := n + ((5 + 6 * c.length) + 0)) ?_ (by omega)
        refine Goes.bind (n := n) (k := (5 + 6 * c.length) + 0) (Goes.holding g) ?_
        rw [ht]
        have hj : ((dictE m :: d.subs.map dictE) ++ [dictE (subEs d.t c)])[(dictE m :: d.subs.map dictE).length]? = some (dictE (subEs d.t c)) := by simp
        have mg := merge_goes (p := p) (w := w) (n₀ := n₀) (ann := ann) (q := pos) (i := 0) (s := { s with heap := hp H ((dictE m :: d.subs.map dictE) ++ [dictE (subEs d.t c)]), toks := d.t + 3 * c.length }) rfl (es := m) rfl hj (by simp) (by intro h; rw [h] at hme; cases hme) (hn 0) (by omega) (by rw [hsub]; omega) (subEs_hashed _ _) hf2
        rw [hsub] at mg
        refine Goes.bind (n := 5 + 6 * c.length) (k := 0) (Goes.onRaise (Goes.holding mg)) ?_
        have e3 : (hp H (((dictE m :: d.subs.map dictE) ++ [dictE (subEs d.t c)]).set 0 (dictE (m ++ subEs d.t c)))) = hp H (DS.objs ⟨d.t + 3 * c.length, some (m ++ subEs d.t c), d.subs ++ [subEs d.t c]⟩) := by
          unfold DS.objs
          simp
        rw [e3]
        exact Goes.pure
      · cases e
end
end Mine

-- H8
namespace Mine
section
variable {p : Program} {w : World} {n₀ : Nat} {ann : Option Value} {H : Heap} {q : Pos} {s : Shared}

theorem items_goes {pos : Pos} (hn : ∀ k, Nat.ble n₀ (H.objs.size + k) = true) (h1 : 1 < H.objs.size) : ∀ {rest : List Pr} {ysr : List (Sem Value × Sem Value)}, All2 (IsPair pos) rest ysr → ∀ {run run' : List Pr} {yr : List (Sem Value × Sem Value)} {d d' : DS} {s : Shared} {q : Pos},
    All2 (IsPair pos) run yr → runs rest run d = some (d', run') → s.heap = hp H d.objs → s.toks = d.t →
    ∃ n yr' q', n + 26 * run'.length ≤ 26 * (run.length + rest.length) ∧ All2 (IsPair pos) run' yr' ∧
      Goes p w n₀ ann (forIn (opened ysr) (d.addr H.objs.size, yr) turnT) q s (d'.addr H.objs.size, yr') q' { s with heap := hp H d'.objs, toks := d'.t } n
  | _, _, .nil, run, run', yr, d, d', s, q, hr, e, hs, ht => by
    cases e
    refine ⟨0, yr, q, by simp, hr, ?_⟩
    show Goes _ _ _ _ (forIn [] _ _) _ _ _ _ _ _
    rw [List.forIn_nil, ← hs, ← ht]
    exact Goes.pure
  | x :: rest, y :: ysr, .cons hx hrest, run, run', yr, d, d', s, q, hr, e, hs, ht => by
    have hr' := hr.snoc hx
    have hl := hr'.length
    show ∃ n yr' q', _ ∧ _ ∧ Goes _ _ _ _ (forIn ((some y.1, y.2) :: opened ysr) _ _) _ _ _ _ _ _
    rw [List.forIn_cons]
    unfold runs at e
    split at e
    · rename_i h17
      split at e
      · rename_i d₁ e1
        obtain ⟨n, hb, g, _⟩ := flush_goes (p := p) (w := w) (ann := ann) (q := q) hr' hs ht hn h1 e1
        obtain ⟨m, yr', q', hb', hy', g'⟩ := items_goes hn h1 hrest (run := []) (yr := []) (s := { s with heap := hp H d₁.objs, toks := d₁.t }) (q := pos) .nil e rfl rfl
        refine ⟨n + m, yr', q', ?_, hy', ?_⟩
        · simp only [List.length_append, List.length_cons, List.length_nil] at hb hb' ⊢
          omega
        · refine Goes.bind (n := n) (k := m) (a := (ForInStep.yield (d₁.addr H.objs.size, []) : ForInStep (Option Addr × List (Sem Value × Sem Value)))) (q₁ := pos) (s₁ := { s with heap := hp H d₁.objs, toks := d₁.t }) ?_ g'
          show Goes _ _ _ _ (if ((yr ++ [(y.1, y.2)]).length == 17) = true then _ else _) _ _ _ _ _ _
          rw [if_pos (by rw [show (yr ++ [(y.1, y.2)]).length = 17 from hl.symm.trans h17]; rfl)]
          exact Goes.bind (n := n) (k := 0) g .pure
      · cases e
    · rename_i h17
      obtain ⟨m, yr', q', hb', hy', g'⟩ := items_goes hn h1 hrest (run := run ++ [x]) (yr := yr ++ [y]) (q := q) hr' e hs ht
      refine ⟨m, yr', q', ?_, hy', ?_⟩
      · simp only [List.length_append, List.length_cons, List.length_nil] at hb' ⊢
        omega
      · refine Goes.cast (n := 0 + m) ?_ (by omega)
        refine Goes.bind (n := 0) (k := m) (a := (ForInStep.yield (d.addr H.objs.size, yr ++ [y]) : ForInStep (Option Addr × List (Sem Value × Sem Value)))) (q₁ := q) (s₁ := s) ?_ g'
        show Goes _ _ _ _ (if ((yr ++ [(y.1, y.2)]).length == 17) = true then _ else _) _ _ _ _ _ _
        rw [if_neg (by
          intro h
          have := beq_iff_eq.mp h
          exact h17 (hl.trans this))]
        exact Goes.pure

theorem display_goes {pos : Pos} {ps : List Pr} {ys : List (Sem Value × Sem Value)} {d : DS} (hn : ∀ k, Nat.ble n₀ (H.objs.size + k) = true) (h1 : 1 < H.objs.size) (hy : All2 (IsPair pos) ps ys) (e : display s.toks ps = some d) (hs : s.heap = H) :
    ∃ n, n ≤ 26 * ps.length ∧ Goes p w n₀ ann (dictDisplay (opened ys)) q s (.ref H.objs.size) pos { s with heap := hp H d.objs, toks := d.t } n := by
  unfold display at e
  split at e
  · rename_i d₁ run e1
    obtain ⟨n, yr, q', hb, hr, g⟩ := items_goes (p := p) (w := w) (ann := ann) (q := q) (s := s) hn h1 hy (run := []) (yr := []) .nil e1 (by rw [hs]; simp [DS.objs, hp]) rfl
    obtain ⟨m, hb', g', hsome⟩ := flush_goes (p := p) (w := w) (ann := ann) (q := q') (s := { s with heap := hp H d₁.objs, toks := d₁.t }) hr rfl rfl hn h1 e
    refine ⟨n + (m + 0), by simp only [List.length_nil] at hb; omega, ?_⟩
    rw [display_eq]
    refine Goes.bind (n := n) (k := m + 0) g (Goes.bind (n := m) (k := 0) g' ?_)
    have : d.addr H.objs.size = some H.objs.size := by
      unfold DS.addr
      cases hd : d.main with
      | none => rw [hd] at hsome; cases hsome
      | some _ => rfl
    rw [this]
    exact Goes.pure
  · cases e

/-- the written keys and values of a display are pairs -/
inductive Written : List (Option Expr) → List Expr → List Pr → Prop where
  | nil : Written [] [] []
  | cons {k : Int} {v : Str} {a b : Nat} {c e : Pos} {ks : List (Option Expr)} {vs : List Expr} {ps : List Pr} : Written ks vs ps → Written (some (.Constant (.int k) a c) :: ks) (.Constant (.str v) b e :: vs) (⟨k, v⟩ :: ps)
noncomputable def treesOf (pos : Pos) (ps : List Pr) : List (Sem Value × Sem Value) := ps.map fun x => (mkInt x.k, mkText x.v >>= fun v => standAt pos >>= fun _ => pure v)
theorem trees_all (pos : Pos) : ∀ ps : List Pr, All2 (IsPair pos) ps (treesOf pos ps)
  | [] => .nil
  | _ :: r => .cons ⟨rfl, rfl⟩ (trees_all pos r)
theorem written_trees {env : Env} {pos : Pos} : ∀ {ks : List (Option Expr)} {vs : List Expr} {ps : List Pr}, Written ks vs ps →
    (evalEachOpt ks env).zip ((evalEach vs env).map fun v => do let x ← v; standAt pos; pure x) = opened (treesOf pos ps)
  | _, _, _, .nil => rfl
  | _, _, _, .cons h => by
    have ih := written_trees (env := env) (pos := pos) h
    show _ :: _ = _ :: _
    refine congr (congrArg _ ?_) ih
    rfl
end
end Mine

-- H9
namespace Mine
section
variable {p : Program} {w : World} {n₀ : Nat} {ann : Option Value}

theorem segRun_more {tb : String → Option Builtin} {b : Nat} (k : Nat) : ∀ {n : Nat} {s : Shared} {t : Thread} {r}, segRun tb p w n₀ ann b n s t = some r → segRun tb p w n₀ ann b (n + k) s t = some r
  | 0, _, _, _, h => by simp [segRun] at h
  | n + 1, s, t, r, h => by
    rw [show n + 1 + k = n + k + 1 by omega]
    unfold segRun at h ⊢
    cases he : endAt b t with
    | some f => rw [he] at h; exact h
    | none =>
      rw [he] at h
      cases hk : stepOk n₀ ann t with
      | false => rw [hk] at h; cases h
      | true =>
        rw [hk] at h
        cases hs : step (denote tb) p w s t with
        | halt o s₂ => rw [hs] at h; cases h
        | go s₂ t₂ => rw [hs] at h; exact segRun_more k h

noncomputable def tailOf (env : Env) (x : Str) (xp : Pos) (value : Expr) (v : Value) : Sem Flow :=
  (do assignStores env v (← swappedStores [.Name x xp] value env) ((assignEach [.Name x xp] env).map (·.2))) >>= fun f => match f with
    | .next => execs [] env
    | f => pure f
theorem bind_assoc' {α β γ : Type} (m : Sem α) (f : α → Sem β) (g : β → Sem γ) : (m >>= f) >>= g = m >>= fun a => f a >>= g := by
  show (m.bind f).bind g = m.bind fun a => (f a).bind g
  rw [Sem.bind_eq_wrap, Sem.bind_eq_wrap, Sem.wrap_wrap, Sem.bind_eq_wrap]
  refine Sem.wrap_congr _ _ _ (fun a => (Sem.bind_eq_wrap _ _).symm) fun e => rfl

theorem assign_tree {env : Env} {x : Str} {xp pos dpos : Pos} {ks : List (Option Expr)} {vs : List Expr} {ps : List Pr} (hw : Written ks vs ps) :
    execs [.Assign [.Name x xp] (.Dict ks vs dpos) pos] env = (standAt pos >>= fun _ => standAt dpos >>= fun _ => dictDisplay (opened (treesOf dpos ps))) >>= tailOf env x xp (.Dict ks vs dpos) := by
  have e1 : execs [.Assign [.Name x xp] (.Dict ks vs dpos) pos] env = exec (.Assign [.Name x xp] (.Dict ks vs dpos) pos) env >>= fun f => match f with
    | .next => execs [] env
    | f => pure f := rfl
  have e2 : exec (.Assign [.Name x xp] (.Dict ks vs dpos) pos) env = standAt pos >>= fun _ => eval (.Dict ks vs dpos) env >>= fun v => (do assignStores env v (← swappedStores [.Name x xp] (.Dict ks vs dpos) env) ((assignEach [.Name x xp] env).map (·.2))) := rfl
  have e3 : eval (.Dict ks vs dpos) env = standAt dpos >>= fun _ => dictDisplay ((evalEachOpt ks env).zip ((evalEach vs env).map fun v => do let x ← v; standAt dpos; pure x)) := rfl
  rw [e1, e2, e3, written_trees hw]
  have h := bind_assoc' (dictDisplay (opened (treesOf dpos ps))) (fun v => (do assignStores env v (← swappedStores [.Name x xp] (.Dict ks vs dpos) env) ((assignEach [.Name x xp] env).map (·.2)))) (fun f => match f with
    | .next => execs [] env
    | f => pure f)
  exact congrArg (fun z => Sem.at pos fun _ => Sem.at dpos fun _ => z) h

theorem assign_run {env : Env} {c : Code} {x : Str} {xp pos dpos q qq : Pos} {ks : List (Option Expr)} {vs : List Expr} {ps : List Pr} {d : DS} {s : Shared} {n₂ : Nat} {r} (hw : Written ks vs ps) (hn : n₀ ≤ s.heap.objs.size) (h1 : 1 < s.heap.objs.size) (e : display s.toks ps = some d)
    (tail : segRun treeTable p w n₀ ann 1 n₂ { s with heap := hp s.heap d.objs, toks := d.t } ⟨(tailOf env x xp (.Dict ks vs dpos) (.ref s.heap.objs.size)).wrap doneF deadEnd id id, c, dpos, [topFrame qq]⟩ = some r) :
    segRun treeTable p w n₀ ann 1 (26 * ps.length + 2 + n₂) s (piecesOf [.Assign [.Name x xp] (.Dict ks vs dpos) pos] env c q [topFrame qq]) = some r := by
  obtain ⟨n, hb, g⟩ := display_goes (p := p) (w := w) (ann := ann) (q := dpos) (s := s) (H := s.heap) (fun k => Nat.ble_eq.mpr (show n₀ ≤ s.heap.objs.size + k by omega)) h1 (trees_all dpos ps) e rfl
  have g2 : Goes p w n₀ ann (standAt pos >>= fun _ => standAt dpos >>= fun _ => dictDisplay (opened (treesOf dpos ps))) q s (.ref s.heap.objs.size) dpos { s with heap := hp s.heap d.objs, toks := d.t } (1 + (1 + n)) :=
    Goes.bind (n := 1) (k := 1 + n) (a := ()) (q₁ := pos) (s₁ := s) (Goes.at .pure) (Goes.bind (n := 1) (k := n) (a := ()) (q₁ := dpos) (s₁ := s) (Goes.at .pure) g)
  have h2 := g2 (fun v => (tailOf env x xp (.Dict ks vs dpos) v).wrap doneF deadEnd id id) deadEnd id id c (topFrame qq) []
  have h3 := seg_go h2 tail
  have e4 : piecesOf [.Assign [.Name x xp] (.Dict ks vs dpos) pos] env c q [topFrame qq] = ⟨(standAt pos >>= fun _ => standAt dpos >>= fun _ => dictDisplay (opened (treesOf dpos ps))).wrap (fun v => (tailOf env x xp (.Dict ks vs dpos) v).wrap doneF deadEnd id id) deadEnd id id, c, q, [topFrame qq]⟩ := by
    unfold piecesOf
    rw [assign_tree hw]
    show (⟨(Sem.bind _ _).wrap doneF deadEnd id id, c, q, [topFrame qq]⟩ : Thread) = _
    rw [Sem.bind_eq_wrap, Sem.wrap_wrap]
    rfl
  rw [e4]
  have := segRun_more (26 * ps.length - n) h3
  rw [show 1 + (1 + n) + n₂ + (26 * ps.length - n) = 26 * ps.length + 2 + n₂ by omega] at this
  exact this

noncomputable def writtenOf : List (Option Expr) → List Expr → Option (List Pr)
  | [], [] => some []
  | some (.Constant (.int k) _ _) :: ks, .Constant (.str v) _ _ :: vs => match writtenOf ks vs with
    | some r => some (⟨k, v⟩ :: r)
    | none => none
  | _, _ => none
theorem written_of : ∀ {ks : List (Option Expr)} {vs : List Expr} {ps : List Pr}, writtenOf ks vs = some ps → Written ks vs ps := by
  intro ks
  induction ks with
  | nil =>
    intro vs ps e
    unfold writtenOf at e
    split at e
    · cases e; exact .nil
    · contradiction
    · cases e
  | cons k ks ih =>
    intro vs ps e
    unfold writtenOf at e
    split at e
    · contradiction
    · rename_i h
      cases h
      split at e
      · rename_i r e1
        cases e
        exact .cons (ih e1)
      · cases e
    · cases e
noncomputable def entriesOf (o : Obj) : List DictEntry := match o.data with
  | .dict es _ => es.toList
  | _ => []
end
end Mine

-- H10a
namespace Mine
theorem assign_runT {p : Program} {w : World} {n₀ : Nat} {ann : Option Value} {env : Env} {c : Code} {x : Str} {xp pos dpos q qq : Pos} {ks : List (Option Expr)} {vs : List Expr} {ps : List Pr} {d : DS} {T T₂ : BT} {n n₂ toks k : Nat} {life : Life} {gens : Array GenState} {drawn : Drawn} {os : OsState} {r}
    (hw : writtenOf ks vs = some ps) (hn : Nat.ble n₀ n = true) (h1 : Nat.ble 2 n = true) (e : display toks ps = some d) (eh : hp (absHeap T n life) d.objs = absHeap T₂ n₂ life)
    (tail : segRun treeTable p w n₀ ann 1 k (SharedT.abs ⟨T₂, n₂, life, gens, drawn, d.t, os⟩) ⟨(tailOf env x xp (.Dict ks vs dpos) (.ref n)).wrap doneF deadEnd id id, c, dpos, [topFrame qq]⟩ = some r) :
    segRun treeTable p w n₀ ann 1 (26 * ps.length + 2 + k) (SharedT.abs ⟨T, n, life, gens, drawn, toks, os⟩) (piecesOf [.Assign [.Name x xp] (.Dict ks vs dpos) pos] env c q [topFrame qq]) = some r := by
  have hs : (SharedT.abs ⟨T, n, life, gens, drawn, toks, os⟩).heap.objs.size = n := absHeap_size T n life
  refine assign_run (s := SharedT.abs ⟨T, n, life, gens, drawn, toks, os⟩) (written_of hw) (by rw [hs]; exact Nat.ble_eq.mp hn) (by rw [hs]; exact Nat.ble_eq.mp h1) e ?_
  rw [hs]
  have : ({ (SharedT.abs ⟨T, n, life, gens, drawn, toks, os⟩) with heap := hp (SharedT.abs ⟨T, n, life, gens, drawn, toks, os⟩).heap d.objs, toks := d.t } : Shared) = SharedT.abs ⟨T₂, n₂, life, gens, drawn, d.t, os⟩ := by
    show (⟨hp (absHeap T n life) d.objs, gens, drawn, d.t, os⟩ : Shared) = ⟨absHeap T₂ n₂ life, gens, drawn, d.t, os⟩
    rw [eh]
  rw [this]
  exact tail

end Mine

-- H11
namespace Mine
/-- hashes that rise -/
noncomputable def upE : Int → List DictEntry → Option Int
  | lo, [] => some lo
  | lo, e :: r => if lo < e.hash then upE e.hash r else none
theorem up_fresh : ∀ {E es : List DictEntry} {lo hi : Int}, upE lo E = some hi → (∀ e ∈ es, e.hash ≤ lo) → fresh es E = true ∧ (∀ e ∈ es ++ E, e.hash ≤ hi)
  | [], es, lo, hi, h, hl => by
    cases h
    exact ⟨rfl, by simpa using hl⟩
  | e :: r, es, lo, hi, h, hl => by
    unfold upE at h
    split at h
    · rename_i h1
      obtain ⟨a, b⟩ := up_fresh (E := r) (es := es ++ [e]) h (fun x hx => by
        rcases List.mem_append.mp hx with hx | hx
        · have := hl x hx; omega
        · rw [List.mem_singleton.mp hx]; omega)
      refine ⟨?_, by simpa using b⟩
      unfold fresh
      rw [a, Bool.and_true, List.all_eq_true]
      intro x hx
      have := hl x hx
      simp only [bne_iff_ne]
      omega
    · cases h
noncomputable def DS.flushU (d : DS) (lo : Int) (c : List Pr) : Option (DS × Int) :=
  if c.isEmpty then none else
  match upE lo (subEs d.t c) with
  | none => none
  | some hi => match d.main with
    | none => if c.length ≤ 1000 ∧ d.subs.isEmpty = true then some (⟨d.t + 3 * c.length, some (subEs d.t c), []⟩, hi) else none
    | some m => if c.length ≤ 1000 ∧ m.length ≤ 5000 ∧ m.isEmpty = false then some (⟨d.t + 3 * c.length, some (m ++ subEs d.t c), d.subs ++ [subEs d.t c]⟩, hi) else none
noncomputable def runsU : List Pr → List Pr → DS → Int → Option (DS × List Pr × Int)
  | [], run, d, lo => some (d, run, lo)
  | x :: r, run, d, lo => if (run ++ [x]).length = 17 then match d.flushU lo (run ++ [x]) with
    | some (d', hi) => runsU r [] d' hi
    | none => none
    else runsU r (run ++ [x]) d lo
noncomputable def displayU (t : Nat) (ps : List Pr) (lo : Int) : Option DS := match runsU ps [] ⟨t, none, []⟩ lo with
  | some (d, run, hi) => (d.flushU hi run).map (·.1)
  | none => none
noncomputable def Below (d : DS) (lo : Int) : Prop := ∀ m, d.main = some m → ∀ e ∈ m, e.hash ≤ lo
theorem flush_of {d d' : DS} {lo hi : Int} {c : List Pr} (hb : Below d lo) (h : d.flushU lo c = some (d', hi)) : d.flush c = some d' ∧ Below d' hi := by
  unfold DS.flushU at h
  unfold DS.flush
  split at h
  · cases h
  · rename_i hc
    rw [if_neg hc]
    split at h
    · cases h
    · rename_i hi' hu
      split at h
      · rename_i hm
        split at h
        · rename_i hz
          cases h
          obtain ⟨a, b⟩ := up_fresh (es := []) hu (fun e he => by cases he)
          try rw [hm]
          refine ⟨?_, ?_⟩
          · try dsimp only
            rw [if_pos ⟨a, hz.1, hz.2⟩]
          · intro m hm' e he
            cases hm'
            exact b e (by simpa using he)
        · cases h
      · rename_i m hm
        split at h
        · rename_i hz
          cases h
          obtain ⟨a, _⟩ := up_fresh (es := []) hu (fun e he => by cases he)
          obtain ⟨a2, b⟩ := up_fresh (es := m) hu (hb m hm)
          try rw [hm]
          refine ⟨?_, ?_⟩
          · try dsimp only
            rw [if_pos ⟨a, a2, hz⟩]
          · intro m' hm' e he
            cases hm'
            exact b e he
        · cases h
theorem runs_of : ∀ {ps run run' : List Pr} {d d' : DS} {lo hi : Int}, Below d lo → runsU ps run d lo = some (d', run', hi) → runs ps run d = some (d', run') ∧ Below d' hi
  | [], run, run', d, d', lo, hi, hb, h => by cases h; exact ⟨rfl, hb⟩
  | x :: r, run, run', d, d', lo, hi, hb, h => by
    unfold runsU at h
    unfold runs
    split at h
    · rename_i h17
      rw [if_pos h17]
      split at h
      · rename_i d₁ hi₁ e
        obtain ⟨a, b⟩ := flush_of hb e
        rw [a]
        exact runs_of b h
      · cases h
    · rename_i h17
      rw [if_neg h17]
      exact runs_of hb h
theorem display_of {t : Nat} {ps : List Pr} {lo : Int} {d : DS} (h : displayU t ps lo = some d) : display t ps = some d := by
  unfold displayU at h
  unfold display
  split at h
  · rename_i d₁ run hi e
    obtain ⟨a, b⟩ := runs_of (fun m hm => by cases hm) e
    rw [a]
    cases hf : d₁.flushU hi run with
    | none => rw [hf] at h; cases h
    | some r =>
      obtain ⟨d₂, hi₂⟩ := r
      rw [hf] at h
      cases h
      exact (flush_of b hf).1
  · cases h
end Mine

-- M2
namespace Mine

structure Cx where
  prog : Program
  w : World
  z : Zt
  ok : Heap → Prop
  mono : ∀ h h', ok h → (∀ b o, h.get? b = some o → h'.get? b = some o) → ok h'
  lim : ∀ h, ok h → h.NoLimit

/-- room for k nested calls -/
structure Room (A : Around) (k : Nat) : Prop where
  calm : A.handled = none
  depth : A.depth + k ≤ recursionLimit
  units : A.units + 8 * k + 100 ≤ cLine

noncomputable def EvE (c : Cx) (A : Around) (sl : List Slot) (t : Sem Value) (f : St → Option (V × St)) : Prop :=
  ∀ (h₀ : Heap) (α : List Addr) (σ : St) (s : Shared) (v : V) (σ' : St) (Q : Value → Shared → Prop) (E : Value → Shared → Prop),
    c.ok h₀ → Inv c.z h₀ sl α σ s.heap → f σ = some (v, σ') →
    (∀ α' x h' tk, α <+: α' → Rep c.z α' v x → Inv c.z h₀ sl α' σ' h' → Q x { s with heap := h', toks := tk }) →
    wpAny (model c.prog c.w) A t Q E s
noncomputable def EvB (c : Cx) (A : Around) (sl : List Slot) (t : Sem Bool) (f : St → Option (Bool × St)) : Prop :=
  ∀ (h₀ : Heap) (α : List Addr) (σ : St) (s : Shared) (v : Bool) (σ' : St) (Q : Bool → Shared → Prop) (E : Value → Shared → Prop),
    c.ok h₀ → Inv c.z h₀ sl α σ s.heap → f σ = some (v, σ') →
    (∀ α' h' tk, α <+: α' → Inv c.z h₀ sl α' σ' h' → Q v { s with heap := h', toks := tk }) →
    wpAny (model c.prog c.w) A t Q E s
noncomputable def EvL (c : Cx) (A : Around) (sl : List Slot) (t : Sem (List Value)) (f : St → Option (List V × St)) : Prop :=
  ∀ (h₀ : Heap) (α : List Addr) (σ : St) (s : Shared) (v : List V) (σ' : St) (Q : List Value → Shared → Prop) (E : Value → Shared → Prop),
    c.ok h₀ → Inv c.z h₀ sl α σ s.heap → f σ = some (v, σ') →
    (∀ α' x h' tk, α <+: α' → All2 (Rep c.z α') v x → Inv c.z h₀ sl α' σ' h' → Q x { s with heap := h', toks := tk }) →
    wpAny (model c.prog c.w) A t Q E s

inductive Fl where
  | next
  | ret (v : V)
noncomputable def FlRep (z : Zt) (α : List Addr) : Fl → Flow → Prop
  | .next, f => f = .next
  | .ret v, f => ∃ x, f = .ret x ∧ Rep z α v x
noncomputable def ExS (c : Cx) (A : Around) (sl : List Slot) (t : Sem Flow) (f : St → Option (Fl × St)) : Prop :=
  ∀ (h₀ : Heap) (α : List Addr) (σ : St) (s : Shared) (v : Fl) (σ' : St) (Q : Flow → Shared → Prop) (E : Value → Shared → Prop),
    c.ok h₀ → Inv c.z h₀ sl α σ s.heap → f σ = some (v, σ') →
    (∀ α' x h' tk, α <+: α' → FlRep c.z α' v x → Inv c.z h₀ sl α' σ' h' → Q x { s with heap := h', toks := tk }) →
    wpAny (model c.prog c.w) A t Q E s

/-- an operator on values, no heap -/
noncomputable def Op2 (c : Cx) (A : Around) (t : Value → Value → Sem Value) (g : V → V → Option V) : Prop :=
  ∀ (α : List Addr) (s : Shared) (a b v : V) (x y : Value) (Q : Value → Shared → Prop) (E : Value → Shared → Prop),
    Rep c.z α a x → Rep c.z α b y → g a b = some v → (∀ w tk, Rep c.z α v w → Q w { s with toks := tk }) → wpAny (model c.prog c.w) A (t x y) Q E s

noncomputable def bin (fl fr : St → Option (V × St)) (g : V → V → Option V) : St → Option (V × St) := fun σ =>
  match fl σ with
  | none => none
  | some (a, σ₁) => match fr σ₁ with
    | none => none
    | some (b, σ₂) => match g a b with
      | none => none
      | some v => some (v, σ₂)

section
variable {c : Cx} {A : Around} {sl : List Slot} {en : Env}

theorem EvE.map {t : Sem Value} {f g : St → Option (V × St)} (h : EvE c A sl t f) (e : ∀ σ, g σ = f σ) : EvE c A sl t g := by
  have : g = f := funext e
  rw [this]; exact h

theorem EvE.binop {l r : Expr} {op : Operator} {pos : Pos} {fl fr : St → Option (V × St)} {g : V → V → Option V}
    (hl : EvE c A sl (eval l en) fl) (hr : EvE c A sl (eval r en) fr) (ho : Op2 c A (binaryOp op) g) : EvE c A sl (eval (.BinOp l op r pos) en) (bin fl fr g) := by
  intro h₀ α σ s v σ' Q E ok I e q
  unfold bin at e
  split at e
  · cases e
  · rename_i a σ₁ e1
    split at e
    · cases e
    · rename_i b σ₂ e2
      split at e
      · cases e
      · rename_i v' e3
        cases e
        refine wpAny_BinOp (hl _ _ _ _ _ _ _ _ ok I e1 fun α₁ x h₁ tk₁ p₁ r₁ I₁ => ?_)
        refine hr _ _ _ _ _ _ _ _ ok I₁ e2 fun α₂ y h₂ tk₂ p₂ r₂ I₂ => ?_
        exact ho α₂ _ _ _ _ _ _ _ _ (r₁.mono p₂) r₂ e3 fun w tk rw => q α₂ w h₂ tk (p₁.trans p₂) rw I₂

theorem EvE.cmp {l r : Expr} {op : CmpOp} {pos : Pos} {fl fr : St → Option (V × St)} {g : V → V → Option V}
    (hl : EvE c A sl (eval l en) fl) (hr : EvE c A sl (eval r en) fr) (ho : Op2 c A (compareOp op) g) (hb : behindInMarks op r = false := by rfl) : EvE c A sl (eval (.Compare l [op] [r] pos) en) (bin fl fr g) := by
  intro h₀ α σ s v σ' Q E ok I e q
  unfold bin at e
  split at e
  · cases e
  · rename_i a σ₁ e1
    split at e
    · cases e
    · rename_i b σ₂ e2
      split at e
      · cases e
      · rename_i v' e3
        cases e
        refine wpAny_Compare1 (hl _ _ _ _ _ _ _ _ ok I e1 fun α₁ x h₁ tk₁ p₁ r₁ I₁ => ?_) hb
        refine hr _ _ _ _ _ _ _ _ ok I₁ e2 fun α₂ y h₂ tk₂ p₂ r₂ I₂ => ?_
        exact ho α₂ _ _ _ _ _ _ _ _ (r₁.mono p₂) r₂ e3 fun w tk rw => q α₂ w h₂ tk (p₁.trans p₂) rw I₂

/-- where the name x lies -/
structure Acc (en : Env) (sl : List Slot) (x : Str) (i : Nat) : Prop where
  kind : en.scope.kind = .function
  at_ : (en.kindOf x = some .local ∧ sl[i]? = some (.ns en.locals x)) ∨ (∃ a, en.kindOf x = some .cell ∧ en.cells.lookup x = some a ∧ sl[i]? = some (.cell a)) ∨
    (∃ a, en.kindOf x = some .free ∧ en.cells.lookup x = some a ∧ sl[i]? = some (.cell a) ∧ (x == ("__classdict__" : Str)) = false)

noncomputable def getF (i : Nat) : St → Option (V × St) := fun σ => match σ.v[i]? with
  | some (some v) => some (v, σ)
  | _ => none

theorem wpAny_toks {M : Model} {E : Value → Shared → Prop} {s : Shared} {Q : Value → Shared → Prop} {t : Sem Value} (h : wpAny M A t Q E { s with toks := s.toks }) : wpAny M A t Q E s := h

theorem load_acc {x : Str} {i : Nat} (a : Acc en sl x i) : EvE c A sl (loadName en x) (getF i) := by
  intro h₀ α σ s v σ' Q E ok I e q
  unfold getF at e
  split at e
  · rename_i v' e1
    cases e
    obtain ⟨sx, y, e2, e3, e4⟩ := I.vars i _ e1
    have fin : Q y s := q α y s.heap s.toks (List.prefix_refl _) e4 I
    rcases a.at_ with ⟨k, e5⟩ | ⟨b, k, hc, e5⟩ | ⟨b, k, hc, e5, hn⟩
    · rw [e2] at e5; cases e5
      obtain ⟨m, n, em⟩ := e3
      exact wpAny_loadName_local a.kind k n em fin
    · rw [e2] at e5; cases e5
      exact wpAny_loadName_cell a.kind k hc e3 fin
    · rw [e2] at e5; cases e5
      exact wpAny_loadName_free a.kind k hc e3 fin hn
  · cases e

theorem EvE.name {x : Str} {pos : Pos} {i : Nat} (a : Acc en sl x i) (hd : (x == ("__debug__" : Str)) = false := by decide) : EvE c A sl (eval (.Name x pos) en) (getF i) :=
  fun h₀ α σ s v σ' Q E ok I e q => wpAny_Name (load_acc a h₀ α σ s v σ' Q E ok I e q) hd

noncomputable def lit (v : V) : St → Option (V × St) := fun σ => some (v, σ)

theorem rep_int {z : Zt} {α : List Addr} {a b i : Int} (t : Tok) (h : i = a * z.n + b) : Rep z α (.int a b) (.int i t) := ⟨t, by rw [h]⟩
theorem EvE.int {i : Int} {k : Nat} {pos : Pos} : EvE c A sl (eval (.Constant (.int i) k pos) en) (lit (.int 0 i)) := by
  intro h₀ α σ s v σ' Q E ok I e q
  cases e
  exact wpAny_Constant_int (q α _ s.heap _ (List.prefix_refl _) (rep_int _ (by simp)) I)
theorem EvE.str {x : Str} {l : List Nat} {k : Nat} {pos : Pos} (hx : x = ⟨l.toArray⟩) : EvE c A sl (eval (.Constant (.str x) k pos) en) (lit (.str l)) := by
  intro h₀ α σ s v σ' Q E ok I e q
  cases e
  subst hx
  exact wpAny_Constant_str (q α _ s.heap _ (List.prefix_refl _) ⟨_, rfl⟩ I)
theorem EvE.bool {b : Bool} {k : Nat} {pos : Pos} : EvE c A sl (eval (.Constant (.bool b) k pos) en) (lit (.bool b)) := by
  intro h₀ α σ s v σ' Q E ok I e q
  cases e
  exact wpAny_Constant_bool (q α _ s.heap s.toks (List.prefix_refl _) rfl I)
theorem EvE.bytes {b : List UInt8} {k : Nat} {pos : Pos} : EvE c A sl (eval (.Constant (.bytes b) k pos) en) (lit (.bytes b)) := by
  intro h₀ α σ s v σ' Q E ok I e q
  cases e
  rw [eval_Constant]
  exact wpAny_mkTextBytes (q α _ s.heap _ (List.prefix_refl _) ⟨_, rfl⟩ I)

-- operators
noncomputable def addV : V → V → Option V
  | .int a b, .int c d => some (.int (a + c) (b + d))
  | .str x, .str y => if x.length + y.length ≤ 10000 then some (.str (x ++ y)) else none
  | .bytes x, .bytes y => if x.length + y.length ≤ 10000 then some (.bytes (x ++ y)) else none
  | _, _ => none
noncomputable def subV : V → V → Option V
  | .int a b, .int c d => some (.int (a - c) (b - d))
  | _, _ => none
noncomputable def rep (x : List Nat) : Nat → List Nat
  | 0 => []
  | n + 1 => x ++ rep x n
noncomputable def small (b : Int) : Bool := decide (-9223372036854775808 < b ∧ b < 9223372036854775808)
noncomputable def mulV : V → V → Option V
  | .int a b, .int c d => if a = 0 ∧ c = 0 ∧ small b then some (.int 0 (b * d)) else none
  | .str x, .int a b => if a = 0 ∧ 0 ≤ b ∧ b ≤ 1000 ∧ x.length ≤ 1000 then some (.str (rep x b.toNat)) else none
  | _, _ => none
noncomputable def divV : V → V → Option V
  | .int a b, .int c d => if c = 0 ∧ 0 < d ∧ d < 1000000 ∧ a % d = 0 then some (.int (a / d) (b / d)) else none
  | _, _ => none
noncomputable def modV : V → V → Option V
  | .int a b, .int c d => if c = 0 ∧ 0 < d ∧ a % d = 0 then some (.int 0 (b % d)) else none
  | _, _ => none
noncomputable def powV : V → V → Option V
  | .int a b, .int c d => if a = 0 ∧ c = 0 ∧ b = 2 ∧ 0 ≤ d ∧ d ≤ 60 then some (.int 0 (2 ^ d.toNat)) else none
  | _, _ => none

theorem Op2.add : Op2 c A (binaryOp .Add) addV := by
  intro α s a b v x y Q E ra rb e q
  unfold addV at e
  split at e
  · obtain ⟨t, rfl⟩ := ra
    obtain ⟨u, rfl⟩ := rb
    cases e
    exact add_int (q _ _ (rep_int _ (by rw [Int.add_mul]; omega)))
  · rename_i l m
    obtain ⟨t, rfl⟩ := ra
    obtain ⟨u, rfl⟩ := rb
    split at e
    · rename_i hl
      cases e
      refine SB.add (fun t' k => q _ _ ⟨t', ?_⟩) (by simp only [Str.length, List.size_toArray, sizeLine_eq]; omega)
      congr 1
      apply Str.ext'
      simp [Str.cps_append]
    · cases e
  · rename_i l m
    obtain ⟨t, rfl⟩ := ra
    obtain ⟨u, rfl⟩ := rb
    split at e
    · rename_i hl
      cases e
      refine KBy.add_bytes (by simp only [List.size_toArray]; omega) (fun t' k => q _ _ ⟨t', ?_⟩)
      simp
    · cases e
  · cases e

noncomputable def iaddV : V → V → Option V
  | .int a b, .int c d => some (.int (a + c) (b + d))
  | .str x, .str y => if x.length + y.length ≤ 10000 then some (.str (x ++ y)) else none
  | _, _ => none
theorem Op2.iadd : Op2 c A (inplaceOp .Add) iaddV := by
  intro α s a b v x y Q E ra rb e q
  unfold iaddV at e
  split at e
  · obtain ⟨t, rfl⟩ := ra
    obtain ⟨u, rfl⟩ := rb
    cases e
    exact iadd_int (q _ _ (rep_int _ (by rw [Int.add_mul]; omega)))
  · rename_i l m
    obtain ⟨t, rfl⟩ := ra
    obtain ⟨u, rfl⟩ := rb
    split at e
    · rename_i hl
      cases e
      refine SB.iadd (fun t' k => q _ _ ⟨t', ?_⟩) (by simp only [Str.length, List.size_toArray, sizeLine_eq]; omega)
      congr 1
      apply Str.ext'
      simp [Str.cps_append]
    · cases e
  · cases e

theorem Op2.sub : Op2 c A (binaryOp .Sub) subV := by
  intro α s a b v x y Q E ra rb e q
  unfold subV at e
  split at e
  · obtain ⟨t, rfl⟩ := ra
    obtain ⟨u, rfl⟩ := rb
    cases e
    exact sub_int (q _ _ (rep_int _ (by rw [Int.sub_mul]; omega)))
  · cases e
theorem Op2.isub : Op2 c A (inplaceOp .Sub) subV := by
  intro α s a b v x y Q E ra rb e q
  unfold subV at e
  split at e
  · obtain ⟨t, rfl⟩ := ra
    obtain ⟨u, rfl⟩ := rb
    cases e
    exact isub_int (q _ _ (rep_int _ (by rw [Int.sub_mul]; omega)))
  · cases e

theorem rep_eq (x : List Nat) : ∀ n, (⟨(List.replicate n x.toArray).foldl (· ++ ·) #[]⟩ : Str) = ⟨(rep x n).toArray⟩ := by
  have key : ∀ n (acc : List Nat), (List.replicate n x.toArray).foldl (· ++ ·) acc.toArray = (acc ++ rep x n).toArray := by
    intro n
    induction n with
    | zero => intro acc; simp [rep]
    | succ n ih =>
      intro acc
      rw [List.replicate_succ, List.foldl_cons, List.append_toArray, ih]
      simp [rep]
  intro n
  have := key n []
  rw [this]; simp
theorem rep_nil : ∀ n, rep [] n = []
  | 0 => rfl
  | n + 1 => by simp [rep, rep_nil n]
theorem mul_eq (x : List Nat) (n : Int) (h : 0 ≤ n) : Txt.mul ⟨x.toArray⟩ n = ⟨(rep x n.toNat).toArray⟩ := by
  unfold Txt.mul
  by_cases h1 : n < 1
  · rw [if_pos h1]
    have : n = 0 := by omega
    subst this
    rfl
  · rw [if_neg h1]
    split
    · rename_i h2
      simp only [Bool.or_eq_true, beq_iff_eq] at h2
      rcases h2 with h2 | h2
      · subst h2; simp [rep]
      · have : x = [] := by
          simp only [Str.length, List.size_toArray] at h2
          exact List.eq_nil_of_length_eq_zero h2
        subst this
        rw [rep_nil]
    · exact rep_eq x _

theorem Op2.mul : Op2 c A (binaryOp .Mult) mulV := by
  intro α s a b v x y Q E ra rb e q
  unfold mulV at e
  split at e
  · obtain ⟨t, rfl⟩ := ra
    obtain ⟨u, rfl⟩ := rb
    split at e
    · rename_i h
      obtain ⟨rfl, rfl, hb⟩ := h
      cases e
      unfold small at hb
      have hb := of_decide_eq_true hb
      exact mul_int (q _ _ (rep_int _ (by simp))) (.of_left (intBits_le_64 (by omega) (by omega)))
    · cases e
  · obtain ⟨t, rfl⟩ := ra
    obtain ⟨u, rfl⟩ := rb
    split at e
    · rename_i l a b h
      obtain ⟨rfl, h0, h1, h2⟩ := h
      cases e
      have e0 : (0 : Int) * c.z.n + b = b := by simp
      rw [e0]
      refine SB.mul ?_ (fun t' k => ?_)
      · refine ⟨by simp; omega, fun _ _ => ?_, fun _ _ => ?_⟩
        · have : (1000 : Int) ≤ (2 ^ 63 - 1) / b := by
            rw [Int.le_ediv_iff_mul_le (by omega)]; omega
          simp only [Str.length, List.size_toArray]; omega
        · have hb : b.toNat ≤ 1000 := by omega
          have := Nat.mul_le_mul h2 hb
          simp only [Builtin.Str.tooLong, Str.length, List.size_toArray, sizeLine_eq, gt_iff_lt, decide_eq_false_iff_not, Nat.not_lt]
          omega
      · rw [mul_eq _ _ h0]
        exact q _ _ ⟨t', rfl⟩
    · cases e
  · cases e

end
end Mine

-- M3
namespace Mine
section
variable {c : Cx} {A : Around} {sl : List Slot} {en : Env}

theorem fdiv_lin (a b z d : Int) (hd : 0 < d) (h : a % d = 0) : (a * z + b).fdiv d = a / d * z + b / d := by
  obtain ⟨k, rfl⟩ := Int.dvd_of_emod_eq_zero h
  rw [Int.fdiv_eq_ediv_of_nonneg _ (Int.le_of_lt hd), Int.mul_assoc, Int.mul_ediv_cancel_left _ (by omega : d ≠ 0), Int.add_comm, Int.add_mul_ediv_left _ _ (by omega : d ≠ 0), Int.add_comm]
theorem fmod_lin (a b z d : Int) (hd : 0 < d) (h : a % d = 0) : (a * z + b).fmod d = b % d := by
  obtain ⟨k, rfl⟩ := Int.dvd_of_emod_eq_zero h
  rw [Int.fmod_eq_emod_of_nonneg _ (Int.le_of_lt hd), Int.mul_assoc, Int.add_comm, Int.add_mul_emod_self_left]

theorem Op2.div : Op2 c A (binaryOp .FloorDiv) divV := by
  intro α s a b v x y Q E ra rb e q
  unfold divV at e
  split at e
  · obtain ⟨t, rfl⟩ := ra
    obtain ⟨u, rfl⟩ := rb
    split at e
    · rename_i h
      obtain ⟨rfl, h0, h1, h2⟩ := h
      cases e
      have e0 : ∀ d : Int, (0 : Int) * c.z.n + d = d := by intro d; simp
      rw [e0]
      exact floordiv_int (by omega) (q _ _ (rep_int _ (fdiv_lin _ _ _ _ h0 h2))) (Or.inl (PyProof.noPylong_small (by omega)))
    · cases e
  · cases e
theorem Op2.idiv : Op2 c A (inplaceOp .FloorDiv) divV := by
  intro α s a b v x y Q E ra rb e q
  unfold divV at e
  split at e
  · obtain ⟨t, rfl⟩ := ra
    obtain ⟨u, rfl⟩ := rb
    split at e
    · rename_i h
      obtain ⟨rfl, h0, h1, h2⟩ := h
      cases e
      have e0 : ∀ d : Int, (0 : Int) * c.z.n + d = d := by intro d; simp
      rw [e0]
      exact ifloordiv_int (by omega) (q _ _ (rep_int _ (fdiv_lin _ _ _ _ h0 h2))) (Or.inl (PyProof.noPylong_small (by omega)))
    · cases e
  · cases e
theorem Op2.mod : Op2 c A (binaryOp .Mod) modV := by
  intro α s a b v x y Q E ra rb e q
  unfold modV at e
  split at e
  · obtain ⟨t, rfl⟩ := ra
    obtain ⟨u, rfl⟩ := rb
    split at e
    · rename_i h
      obtain ⟨rfl, h0, h2⟩ := h
      cases e
      have e0 : ∀ d : Int, (0 : Int) * c.z.n + d = d := by intro d; simp
      rw [e0]
      exact mod_int' (by omega) (q _ _ (rep_int _ (by rw [fmod_lin _ _ _ _ h0 h2]; simp)))
    · cases e
  · cases e
theorem Op2.pow : Op2 c A (binaryOp .Pow) powV := by
  intro α s a b v x y Q E ra rb e q
  unfold powV at e
  split at e
  · obtain ⟨t, rfl⟩ := ra
    obtain ⟨u, rfl⟩ := rb
    split at e
    · rename_i h
      obtain ⟨rfl, rfl, rfl, h0, h2⟩ := h
      cases e
      have e0 : ∀ d : Int, (0 : Int) * c.z.n + d = d := by intro d; simp
      rw [e0, e0]
      rename_i d
      by_cases hd : d = 0
      · subst hd
        exact AutoIntOps.pow_0 (by omega) (by decide) (q _ _ (rep_int _ (by simp)))
      · refine AutoIntOps.pow_4 (by omega) (by simpa using hd) (by decide) (by decide) ?_ (q _ _ (rep_int _ (by simp)))
        have : Builtin.Int.intBits 2 = 2 := by decide
        rw [this]
        unfold Builtin.Int.intTooBig
        have e1 : ((bitsLine : Nat) : Int) = 134217728 := rfl
        rw [e1, decide_eq_true_eq]
        omega
    · cases e
  · cases e

noncomputable def eqV : V → V → Option V
  | .int a b, .int c d => if a = c then some (.bool (decide (b = d))) else none
  | .str x, .str y => some (.bool (x == y))
  | .bool x, .bool y => some (.bool (x == y))
  | _, _ => none
noncomputable def gtV : V → V → Option V
  | .int a b, .int c d => if a = c then some (.bool (decide (d < b))) else none
  | _, _ => none
noncomputable def geV : V → V → Option V
  | .int a b, .int c d => if a = c then some (.bool (decide (d ≤ b))) else none
  | _, _ => none
noncomputable def neV : V → V → Option V
  | .str x, .str y => some (.bool (x != y))
  | _, _ => none

theorem lin_eq (a b d z : Int) : (a * z + b == a * z + d) = decide (b = d) := by
  by_cases h : b = d
  · subst h; simp
  · have : ¬ (a * z + b = a * z + d) := by omega
    simp [h, this]

theorem Op2.eq : Op2 c A (compareOp .Eq) eqV := by
  intro α s a b v x y Q E ra rb e q
  unfold eqV at e
  split at e
  · obtain ⟨t, rfl⟩ := ra
    obtain ⟨u, rfl⟩ := rb
    split at e
    · rename_i h
      subst h
      cases e
      refine P.eq_int ?_
      rw [lin_eq]
      exact q _ s.toks rfl
    · cases e
  · obtain ⟨t, rfl⟩ := ra
    obtain ⟨u, rfl⟩ := rb
    cases e
    exact P.eq_str (q _ s.toks rfl)
  · cases ra; cases rb
    cases e
    exact PyProof.Rows.eq_bool (q _ s.toks rfl)
  · cases e
theorem Op2.ne : Op2 c A (compareOp .NotEq) neV := by
  intro α s a b v x y Q E ra rb e q
  unfold neV at e
  split at e
  · obtain ⟨t, rfl⟩ := ra
    obtain ⟨u, rfl⟩ := rb
    cases e
    exact P.ne_str (q _ s.toks rfl)
  · cases e
theorem Op2.gt : Op2 c A (compareOp .Gt) gtV := by
  intro α s a b v x y Q E ra rb e q
  unfold gtV at e
  split at e
  · obtain ⟨t, rfl⟩ := ra
    obtain ⟨u, rfl⟩ := rb
    split at e
    · rename_i h
      subst h
      cases e
      refine P.gt_int (q _ s.toks ?_)
      congr 1
      apply decide_eq_decide.mpr
      constructor <;> intro h <;> omega
    · cases e
  · cases e
theorem Op2.ge : Op2 c A (compareOp .GtE) geV := by
  intro α s a b v x y Q E ra rb e q
  unfold geV at e
  split at e
  · obtain ⟨t, rfl⟩ := ra
    obtain ⟨u, rfl⟩ := rb
    split at e
    · rename_i h
      subst h
      cases e
      refine P.ge_int (q _ s.toks ?_)
      congr 1
      apply decide_eq_decide.mpr
      constructor <;> intro h <;> omega
    · cases e
  · cases e

/-- one argument, no heap -/
noncomputable def un (f : St → Option (V × St)) (g : V → Option V) : St → Option (V × St) := fun σ =>
  match f σ with
  | none => none
  | some (a, σ₁) => match g a with
    | none => none
    | some v => some (v, σ₁)
noncomputable def Op1 (c : Cx) (A : Around) (t : Value → Sem Value) (g : V → Option V) : Prop :=
  ∀ (α : List Addr) (s : Shared) (a v : V) (x : Value) (Q : Value → Shared → Prop) (E : Value → Shared → Prop),
    Rep c.z α a x → g a = some v → (∀ w tk, Rep c.z α v w → Q w { s with toks := tk }) → wpAny (model c.prog c.w) A (t x) Q E s
noncomputable def negV : V → Option V
  | .int a b => some (.int (-a) (-b))
  | _ => none
theorem Op1.neg : Op1 c A (unaryOp .USub) negV := by
  intro α s a v x Q E ra e q
  unfold negV at e
  split at e
  · obtain ⟨t, rfl⟩ := ra
    cases e
    exact neg_int (q _ _ (rep_int _ (by rw [Int.neg_mul]; omega)))
  · cases e
theorem EvE.unop {x : Expr} {op : UnaryOp} {pos : Pos} {f : St → Option (V × St)} {g : V → Option V} (h : EvE c A sl (eval x en) f) (ho : Op1 c A (unaryOp op) g) : EvE c A sl (eval (.UnaryOp op x pos) en) (un f g) := by
  intro h₀ α σ s v σ' Q E ok I e q
  unfold un at e
  split at e
  · cases e
  · rename_i a σ₁ e1
    split at e
    · cases e
    · rename_i v' e2
      cases e
      exact wpAny_UnaryOp (h _ _ _ _ _ _ _ _ ok I e1 fun α₁ x h₁ tk₁ p₁ r₁ I₁ => ho _ _ _ _ _ _ _ r₁ e2 fun w tk rw => q α₁ w h₁ tk p₁ rw I₁)

-- truth
noncomputable def truthV : V → Option Bool
  | .bool b => some b
  | .int a b => if a = 0 then some (decide (b ≠ 0)) else none
  | _ => none
noncomputable def tst (f : St → Option (V × St)) : St → Option (Bool × St) := fun σ =>
  match f σ with
  | none => none
  | some (a, σ₁) => match truthV a with
    | none => none
    | some v => some (v, σ₁)
theorem truth_of {α : List Addr} {s : Shared} {a : V} {x : Value} {b : Bool} {Q : Bool → Shared → Prop} {E : Value → Shared → Prop} (r : Rep c.z α a x) (e : truthV a = some b) (q : Q b s) : wpAny (model c.prog c.w) A (truthy x) Q E s := by
  unfold truthV at e
  split at e
  · cases r; cases e
    exact wpAny_truthy_bool q
  · obtain ⟨t, rfl⟩ := r
    split at e
    · rename_i h
      subst h
      cases e
      refine truthy_int ?_
      rename_i b'
      have : ((0 : Int) * c.z.n + b' != 0) = decide (b' ≠ 0) := by
        by_cases hb : b' = 0 <;> simp [hb]
      rw [this]; exact q
    · cases e
  · cases e

theorem EvB.value {x : Expr} {f : St → Option (V × St)} (h : EvE c A sl (eval x en) f)
    (hw : ∀ whole, isTrue x en whole = (do let v ← whole; standAt x.pos; holding [v] (truthy v))) : EvB c A sl (isTrue x en (eval x en)) (tst f) := by
  intro h₀ α σ s v σ' Q E ok I e q
  unfold tst at e
  split at e
  · cases e
  · rename_i a σ₁ e1
    split at e
    · cases e
    · rename_i b e2
      cases e
      exact wpAny_isTrue_value (h _ _ _ _ _ _ _ _ ok I e1 fun α₁ x h₁ tk₁ p₁ r₁ I₁ => truth_of r₁ e2 (q α₁ h₁ tk₁ p₁ I₁)) (hw _)

theorem EvB.cmp {l r : Expr} {op : CmpOp} {pos : Pos} {fl fr : St → Option (V × St)} {g : V → V → Option V}
    (hl : EvE c A sl (eval l en) fl) (hr : EvE c A sl (eval r en) fr) (ho : Op2 c A (compareOp op) g) (hb : behindInMarks op r = false := by rfl) {whole : Sem Value} : EvB c A sl (isTrue (.Compare l [op] [r] pos) en whole) (tst (bin fl fr g)) := by
  intro h₀ α σ s v σ' Q E ok I e q
  unfold tst bin at e
  split at e
  · cases e
  · rename_i a σ₁ e1
    split at e1
    · cases e1
    · rename_i x σ₂ e2
      split at e1
      · cases e1
      · rename_i y σ₃ e3
        split at e1
        · cases e1
        · rename_i w e4
          cases e1
          split at e
          · cases e
          · rename_i b e5
            cases e
            refine wpAny_isTrue_Compare1 (hl _ _ _ _ _ _ _ _ ok I e2 fun α₁ x h₁ tk₁ p₁ r₁ I₁ => ?_) hb
            refine hr _ _ _ _ _ _ _ _ ok I₁ e3 fun α₂ y h₂ tk₂ p₂ r₂ I₂ => ?_
            exact ho α₂ _ _ _ _ _ _ _ _ (r₁.mono p₂) r₂ e4 fun w tk rw => truth_of rw e5 (q α₂ h₂ tk (p₁.trans p₂) I₂)

noncomputable def andB (f g : St → Option (Bool × St)) : St → Option (Bool × St) := fun σ =>
  match f σ with
  | none => none
  | some (true, σ₁) => g σ₁
  | some (false, σ₁) => some (false, σ₁)
noncomputable def orB (f g : St → Option (Bool × St)) : St → Option (Bool × St) := fun σ =>
  match f σ with
  | none => none
  | some (false, σ₁) => g σ₁
  | some (true, σ₁) => some (true, σ₁)
theorem EvB.and {x y : Expr} {pos : Pos} {f g : St → Option (Bool × St)} (hx : EvB c A sl (isTrue x en (eval x en)) f) (hy : EvB c A sl (isTrue y en (eval y en)) g) {whole : Sem Value} :
    EvB c A sl (isTrue (.BoolOp .And [x, y] pos) en whole) (andB f g) := by
  intro h₀ α σ s v σ' Q E ok I e q
  unfold andB at e
  split at e
  · cases e
  · rename_i σ₁ e1
    refine wpAny_isTrue_BoolOp (wpAny_allTrue_And_cons (hx _ _ _ _ _ _ _ _ ok I e1 fun α₁ h₁ tk₁ p₁ I₁ => ?_))
    rw [if_pos rfl]
    refine wpAny_allTrue_And_cons (hy _ _ _ _ _ _ _ _ ok I₁ e fun α₂ h₂ tk₂ p₂ I₂ => ?_)
    cases v
    · rw [if_neg (by simp)]; exact q α₂ h₂ tk₂ (p₁.trans p₂) I₂
    · rw [if_pos rfl]; exact wpAny_allTrue_And_nil (q α₂ h₂ tk₂ (p₁.trans p₂) I₂)
  · rename_i σ₁ e1
    cases e
    refine wpAny_isTrue_BoolOp (wpAny_allTrue_And_cons (hx _ _ _ _ _ _ _ _ ok I e1 fun α₁ h₁ tk₁ p₁ I₁ => ?_))
    rw [if_neg (by simp)]
    exact q α₁ h₁ tk₁ p₁ I₁
theorem EvB.or {x y : Expr} {pos : Pos} {f g : St → Option (Bool × St)} (hx : EvB c A sl (isTrue x en (eval x en)) f) (hy : EvB c A sl (isTrue y en (eval y en)) g) {whole : Sem Value} :
    EvB c A sl (isTrue (.BoolOp .Or [x, y] pos) en whole) (orB f g) := by
  intro h₀ α σ s v σ' Q E ok I e q
  unfold orB at e
  split at e
  · cases e
  · rename_i σ₁ e1
    refine wpAny_isTrue_BoolOp (wpAny_allTrue_Or_cons (hx _ _ _ _ _ _ _ _ ok I e1 fun α₁ h₁ tk₁ p₁ I₁ => ?_))
    rw [if_neg (by simp)]
    refine wpAny_allTrue_Or_cons (hy _ _ _ _ _ _ _ _ ok I₁ e fun α₂ h₂ tk₂ p₂ I₂ => ?_)
    cases v
    · rw [if_neg (by simp)]; exact wpAny_allTrue_Or_nil (q α₂ h₂ tk₂ (p₁.trans p₂) I₂)
    · rw [if_pos rfl]; exact q α₂ h₂ tk₂ (p₁.trans p₂) I₂
  · rename_i σ₁ e1
    cases e
    refine wpAny_isTrue_BoolOp (wpAny_allTrue_Or_cons (hx _ _ _ _ _ _ _ _ ok I e1 fun α₁ h₁ tk₁ p₁ I₁ => ?_))
    rw [if_pos rfl]
    exact q α₁ h₁ tk₁ p₁ I₁

/-- `x and y` as a value -/
noncomputable def andV (f g : St → Option (V × St)) : St → Option (V × St) := fun σ =>
  match f σ with
  | none => none
  | some (a, σ₁) => match truthV a with
    | none => none
    | some true => g σ₁
    | some false => some (a, σ₁)
theorem EvE.and {x y : Expr} {pos : Pos} {f g : St → Option (V × St)} (hx : EvE c A sl (eval x en) f) (hy : EvE c A sl (eval y en) g) : EvE c A sl (eval (.BoolOp .And [x, y] pos) en) (andV f g) := by
  intro h₀ α σ s v σ' Q E ok I e q
  unfold andV at e
  split at e
  · cases e
  · rename_i a σ₁ e1
    refine wpAny_And2 (hx _ _ _ _ _ _ _ _ ok I e1 fun α₁ w h₁ tk₁ p₁ r₁ I₁ => ?_)
    split at e
    · cases e
    · rename_i e2
      refine truth_of r₁ e2 ?_
      rw [if_pos rfl]
      exact hy _ _ _ _ _ _ _ _ ok I₁ e fun α₂ w h₂ tk₂ p₂ r₂ I₂ => q α₂ w h₂ tk₂ (p₁.trans p₂) r₂ I₂
    · rename_i e2
      cases e
      refine truth_of r₁ e2 ?_
      rw [if_neg (by simp)]
      exact q α₁ w h₁ tk₁ p₁ r₁ I₁

noncomputable def ite (t : St → Option (Bool × St)) {β : Type} (f g : St → Option (β × St)) : St → Option (β × St) := fun σ =>
  match t σ with
  | none => none
  | some (true, σ₁) => f σ₁
  | some (false, σ₁) => g σ₁
theorem EvE.ite {x y w : Expr} {pos : Pos} {t : St → Option (Bool × St)} {f g : St → Option (V × St)} (hx : EvB c A sl (isTrue x en (eval x en)) t) (hy : EvE c A sl (eval y en) f) (hw : EvE c A sl (eval w en) g) :
    EvE c A sl (eval (.IfExp x y w pos) en) (ite t f g) := by
  intro h₀ α σ s v σ' Q E ok I e q
  unfold Mine.ite at e
  split at e
  · cases e
  · rename_i σ₁ e1
    refine wpAny_IfExp (hx _ _ _ _ _ _ _ _ ok I e1 fun α₁ h₁ tk₁ p₁ I₁ => ?_)
    rw [if_pos rfl]
    exact hy _ _ _ _ _ _ _ _ ok I₁ e fun α₂ w h₂ tk₂ p₂ r₂ I₂ => q α₂ w h₂ tk₂ (p₁.trans p₂) r₂ I₂
  · rename_i σ₁ e1
    refine wpAny_IfExp (hx _ _ _ _ _ _ _ _ ok I e1 fun α₁ h₁ tk₁ p₁ I₁ => ?_)
    rw [if_neg (by simp)]
    exact hw _ _ _ _ _ _ _ _ ok I₁ e fun α₂ w h₂ tk₂ p₂ r₂ I₂ => q α₂ w h₂ tk₂ (p₁.trans p₂) r₂ I₂
theorem ExS.ite {x : Expr} {y w : List Stmt} {pos : Pos} {t : St → Option (Bool × St)} {f g : St → Option (Fl × St)} (hx : EvB c A sl (isTrue x en (eval x en)) t) (hy : ExS c A sl (execs y en) f) (hw : ExS c A sl (execs w en) g) :
    ExS c A sl (exec (.If x y w pos) en) (Mine.ite t f g) := by
  intro h₀ α σ s v σ' Q E ok I e q
  unfold Mine.ite at e
  split at e
  · cases e
  · rename_i σ₁ e1
    refine wpAny_If (hx _ _ _ _ _ _ _ _ ok I e1 fun α₁ h₁ tk₁ p₁ I₁ => ?_)
    rw [if_pos rfl]
    exact hy _ _ _ _ _ _ _ _ ok I₁ e fun α₂ w h₂ tk₂ p₂ r₂ I₂ => q α₂ w h₂ tk₂ (p₁.trans p₂) r₂ I₂
  · rename_i σ₁ e1
    refine wpAny_If (hx _ _ _ _ _ _ _ _ ok I e1 fun α₁ h₁ tk₁ p₁ I₁ => ?_)
    rw [if_neg (by simp)]
    exact hw _ _ _ _ _ _ _ _ ok I₁ e fun α₂ w h₂ tk₂ p₂ r₂ I₂ => q α₂ w h₂ tk₂ (p₁.trans p₂) r₂ I₂

-- lists of values
theorem EvL.nil {pos : Pos} : EvL c A sl (spliced (backTo pos (starEach [] en))) (fun σ => some ([], σ)) := by
  intro h₀ α σ s v σ' Q E ok I e q
  cases e
  exact wpAny_items_nil (q α _ s.heap s.toks (List.prefix_refl _) .nil I)
noncomputable def consF (f : St → Option (V × St)) (g : St → Option (List V × St)) : St → Option (List V × St) := fun σ =>
  match f σ with
  | none => none
  | some (a, σ₁) => match g σ₁ with
    | none => none
    | some (l, σ₂) => some (a :: l, σ₂)
theorem EvL.cons {pos : Pos} {x : Expr} {r : List Expr} {f : St → Option (V × St)} {g : St → Option (List V × St)} (hx : EvE c A sl (eval x en) f) (hr : EvL c A sl (spliced (backTo pos (starEach r en))) g)
    (hs : starEach (x :: r) en = (false, eval x en) :: starEach r en := by rfl) : EvL c A sl (spliced (backTo pos (starEach (x :: r) en))) (consF f g) := by
  intro h₀ α σ s v σ' Q E ok I e q
  unfold consF at e
  split at e
  · cases e
  · rename_i a σ₁ e1
    split at e
    · cases e
    · rename_i l σ₂ e2
      cases e
      refine wpAny_items_cons (hx _ _ _ _ _ _ _ _ ok I e1 fun α₁ x h₁ tk₁ p₁ r₁ I₁ => ?_) hs
      exact hr _ _ _ _ _ _ _ _ ok I₁ e2 fun α₂ y h₂ tk₂ p₂ r₂ I₂ => q α₂ _ h₂ tk₂ (p₁.trans p₂) (.cons (r₁.mono p₂) r₂) I₂

noncomputable def newF (g : St → Option (List V × St)) (k : List V → O) : St → Option (V × St) := fun σ =>
  match g σ with
  | none => none
  | some (l, σ₁) => if l.length ≤ 10000 then some (.ref σ₁.h.length, { σ₁ with h := σ₁.h ++ [k l] }) else none
theorem EvE.list {pos : Pos} {r : List Expr} {g : St → Option (List V × St)} (hr : EvL c A sl (spliced (backTo pos (starEach r en))) g) : EvE c A sl (eval (.List r pos) en) (newF g .list) := by
  intro h₀ α σ s v σ' Q E ok I e q
  unfold newF at e
  split at e
  · cases e
  · rename_i l σ₁ e1
    split at e
    · rename_i hl
      cases e
      refine wpAny_List (hr _ _ _ _ _ _ _ _ ok I e1 fun α₁ x h₁ tk₁ p₁ r₁ I₁ => ⟨by rw [← r₁.length, sizeLine_eq]; omega, ?_⟩)
      refine q (α₁ ++ [h₁.objs.size]) _ _ tk₁ (p₁.trans (List.prefix_append _ _)) ⟨_, ?_, rfl⟩ (I₁.alloc (ob := { cls := .type "list", data := .seq x.toArray }) ⟨x, 0, rfl, r₁⟩ (Heap.get?_push_size _ rfl) fun b o e => Heap.get?_push_of_some _ e)
      rw [← I₁.len]; simp
    · cases e
theorem EvE.tuple {pos : Pos} {k : Nat} {r : List Expr} {g : St → Option (List V × St)} (hr : EvL c A sl (spliced (backTo pos (starEach r en))) g) : EvE c A sl (eval (.Tuple r k pos) en) (newF g .tup) := by
  intro h₀ α σ s v σ' Q E ok I e q
  unfold newF at e
  split at e
  · cases e
  · rename_i l σ₁ e1
    split at e
    · rename_i hl
      cases e
      refine wpAny_Tuple (hr _ _ _ _ _ _ _ _ ok I e1 fun α₁ x h₁ tk₁ p₁ r₁ I₁ => ⟨by rw [← r₁.length, sizeLine_eq]; omega, ?_⟩)
      refine q (α₁ ++ [h₁.objs.size]) _ _ tk₁ (p₁.trans (List.prefix_append _ _)) ⟨_, ?_, rfl⟩ (I₁.alloc (ob := { cls := .type "tuple", data := .seq x.toArray }) ⟨x, 0, rfl, r₁⟩ (Heap.get?_push_size _ rfl) fun b o e => Heap.get?_push_of_some _ e)
      rw [← I₁.len]; simp
    · cases e

end
end Mine

-- M4
namespace Mine
section
variable {c : Cx} {A : Around} {sl : List Slot} {en : Env}

-- statements
theorem ExS.nil : ExS c A sl (execs [] en) (fun σ => some (.next, σ)) := by
  intro h₀ α σ s v σ' Q E ok I e q
  cases e
  exact wpAny_execs_nil (q α _ s.heap s.toks (List.prefix_refl _) rfl I)
noncomputable def seqF (f g : St → Option (Fl × St)) : St → Option (Fl × St) := fun σ =>
  match f σ with
  | none => none
  | some (.next, σ₁) => g σ₁
  | some (.ret v, σ₁) => some (.ret v, σ₁)
theorem ExS.cons {x : Stmt} {r : List Stmt} {f g : St → Option (Fl × St)} (hx : ExS c A sl (exec x en) f) (hr : ExS c A sl (execs r en) g) : ExS c A sl (execs (x :: r) en) (seqF f g) := by
  intro h₀ α σ s v σ' Q E ok I e q
  unfold seqF at e
  refine wpAny_execs_cons ?_
  split at e
  · cases e
  · rename_i σ₁ e1
    refine hx _ _ _ _ _ _ _ _ ok I e1 fun α₁ x h₁ tk₁ p₁ r₁ I₁ => ?_
    cases r₁
    exact hr _ _ _ _ _ _ _ _ ok I₁ e fun α₂ x h₂ tk₂ p₂ r₂ I₂ => q α₂ x h₂ tk₂ (p₁.trans p₂) r₂ I₂
  · rename_i w σ₁ e1
    cases e
    refine hx _ _ _ _ _ _ _ _ ok I e1 fun α₁ x h₁ tk₁ p₁ r₁ I₁ => ?_
    obtain ⟨y, rfl, ry⟩ := r₁
    exact q α₁ _ h₁ tk₁ p₁ ⟨y, rfl, ry⟩ I₁

noncomputable def retF (f : St → Option (V × St)) : St → Option (Fl × St) := fun σ =>
  match f σ with
  | none => none
  | some (v, σ₁) => some (.ret v, σ₁)
theorem ExS.ret {x : Expr} {pos : Pos} {f : St → Option (V × St)} (hx : EvE c A sl (eval x en) f) : ExS c A sl (exec (.Return (some x) pos) en) (retF f) := by
  intro h₀ α σ s v σ' Q E ok I e q
  unfold retF at e
  split at e
  · cases e
  · rename_i w σ₁ e1
    cases e
    exact wpAny_Return_some (hx _ _ _ _ _ _ _ _ ok I e1 fun α₁ x h₁ tk₁ p₁ r₁ I₁ => q α₁ _ h₁ tk₁ p₁ ⟨x, rfl, r₁⟩ I₁)

/-- where the name x is stored -/
structure AccS (en : Env) (sl : List Slot) (x : Str) (i : Nat) : Prop where
  kind : en.scope.kind = .function
  at_ : (en.kindOf x = some .local ∧ sl[i]? = some (.ns en.locals x)) ∨ (∃ a, en.kindOf x = some .cell ∧ en.cells.lookup x = some a ∧ sl[i]? = some (.cell a))

theorem store_acc {x : Str} {i : Nat} (a : AccS en sl x i) {h₀ : Heap} {α : List Addr} {σ : St} {s : Shared} {v : V} {y : Value} {Q : Unit → Shared → Prop} {E : Value → Shared → Prop}
    (I : Inv c.z h₀ sl α σ s.heap) (r : Rep c.z α v y) (q : ∀ h' tk, Inv c.z h₀ sl α { σ with v := σ.v.set i (some v) } h' → Q () { s with heap := h', toks := tk }) : wpAny (model c.prog c.w) A (storeName en x y) Q E s := by
  rcases a.at_ with ⟨k, e5⟩ | ⟨b, k, hc, e5⟩
  · obtain ⟨m, n⟩ := I.live _ (List.mem_of_getElem? e5)
    exact wpAny_storeName_local k n (fun h' n' sb => q h' _ (I.store e5 r ⟨m, n, n', sb.2⟩)) (by rw [a.kind]; rfl)
  · obtain ⟨v₀, hv⟩ := I.live _ (List.mem_of_getElem? e5)
    exact wpAny_storeName_cell a.kind k hc hv fun h' n' sb => q h' s.toks (I.store e5 r ⟨n', sb.2⟩)

noncomputable def setF (i : Nat) (f : St → Option (V × St)) : St → Option (Fl × St) := fun σ =>
  match f σ with
  | none => none
  | some (v, σ₁) => some (.next, { σ₁ with v := σ₁.v.set i (some v) })
theorem ExS.assign {x : Str} {p pos : Pos} {y : Expr} {i : Nat} {f : St → Option (V × St)} (a : AccS en sl x i) (hy : EvE c A sl (eval y en) f) (hs : swapsWith y (some (.Name x p)) pos.line en = pure false) :
    ExS c A sl (exec (.Assign [.Name x p] y pos) en) (setF i f) := by
  intro h₀ α σ s v σ' Q E ok I e q
  unfold setF at e
  split at e
  · cases e
  · rename_i w σ₁ e1
    cases e
    exact wpAny_Assign_Name (hy _ _ _ _ _ _ _ _ ok I e1 fun α₁ x h₁ tk₁ p₁ r₁ I₁ => store_acc (s := { s with heap := h₁, toks := tk₁ }) a I₁ r₁ fun h₂ tk₂ I₂ => q α₁ _ h₂ tk₂ p₁ rfl I₂) hs

noncomputable def augF (i : Nat) (f : St → Option (V × St)) (g : V → V → Option V) : St → Option (Fl × St) := fun σ =>
  match getF i σ with
  | none => none
  | some (a, σ₀) => match f σ₀ with
    | none => none
    | some (b, σ₁) => match g a b with
      | none => none
      | some v => some (.next, { σ₁ with v := σ₁.v.set i (some v) })
theorem AccS.acc {x : Str} {i : Nat} (a : AccS en sl x i) : Acc en sl x i := ⟨a.kind, a.at_.imp id fun h => .inl h⟩
theorem ExS.aug {x : Str} {p pos : Pos} {y : Expr} {op : Operator} {i : Nat} {f : St → Option (V × St)} {g : V → V → Option V} (a : AccS en sl x i) (hy : EvE c A sl (eval y en) f) (ho : Op2 c A (inplaceOp op) g) :
    ExS c A sl (exec (.AugAssign (.Name x p) op y pos) en) (augF i f g) := by
  intro h₀ α σ s v σ' Q E ok I e q
  unfold augF at e
  split at e
  · cases e
  · rename_i w σ₁ e1
    split at e
    · cases e
    · rename_i b σ₂ e2
      split at e
      · cases e
      · rename_i v' e3
        cases e
        refine wpAny_AugAssign_Name (load_acc a.acc _ _ _ _ _ _ _ _ ok I e1 fun α₁ x h₁ tk₁ p₁ r₁ I₁ => ?_)
        refine hy _ _ _ _ _ _ _ _ ok I₁ e2 fun α₂ y h₂ tk₂ p₂ r₂ I₂ => ?_
        refine ho α₂ _ _ _ _ _ _ _ _ (r₁.mono p₂) r₂ e3 fun w tk rw => ?_
        exact store_acc (s := { s with heap := h₂, toks := tk }) a I₂ rw fun h₃ tk₃ I₃ => q α₂ _ h₃ tk₃ (p₁.trans p₂) rfl I₃

noncomputable def dropF (f : St → Option (V × St)) : St → Option (Fl × St) := fun σ =>
  match f σ with
  | some (.nil, σ₁) => some (.next, σ₁)
  | _ => none
theorem ExS.expr {x : Expr} {pos : Pos} {f : St → Option (V × St)} (hx : EvE c A sl (eval x en) f) (hi : interactive en = false := by rfl) (hs : swapsWith x none pos.line en = pure false := by rfl) : ExS c A sl (exec (.Expr x pos) en) (dropF f) := by
  intro h₀ α σ s v σ' Q E ok I e q
  unfold dropF at e
  split at e
  · rename_i σ₁ e1
    cases e
    refine wpAny_Expr (hx _ _ _ _ _ _ _ _ ok I e1 fun α₁ x h₁ tk₁ p₁ r₁ I₁ => ?_) hi hs
    cases r₁
    exact q α₁ _ h₁ tk₁ p₁ rfl I₁
  · cases e

-- builtins of one argument, that read the heap alone
noncomputable def unH (f : St → Option (V × St)) (g : List O → V → Option V) : St → Option (V × St) := fun σ =>
  match f σ with
  | none => none
  | some (a, σ₁) => match g σ₁.h a with
    | none => none
    | some v => some (v, σ₁)
noncomputable def OpH (c : Cx) (A : Around) (t : Value → Sem Value) (g : List O → V → Option V) : Prop :=
  ∀ (h₀ : Heap) (sl : List Slot) (α : List Addr) (σ : St) (s : Shared) (a v : V) (x : Value) (Q : Value → Shared → Prop) (E : Value → Shared → Prop),
    c.ok h₀ → Inv c.z h₀ sl α σ s.heap → Rep c.z α a x → g σ.h a = some v →
    (∀ w h' tk, Rep c.z α v w → (∀ b o, s.heap.get? b = some o → h'.get? b = some o) → Q w { s with heap := h', toks := tk }) → wpAny (model c.prog c.w) A (t x) Q E s

/-- the name x gives the value y (a def, a builtin, a type) -/
noncomputable def Says (c : Cx) (A : Around) (t : Sem Value) (y : Value) : Prop :=
  ∀ (h₀ : Heap) (s : Shared) (Q : Value → Shared → Prop) (E : Value → Shared → Prop), c.ok h₀ → (∀ b o, h₀.get? b = some o → s.heap.get? b = some o) → Q y s → wpAny (model c.prog c.w) A t Q E s

theorem Says.builtin {x : Str} {pos : Pos} {y : Value} (hk : en.scope.kind = .function) (hx : en.kindOf x = some .globalImplicit) (hg : en.globals = mainGlobals) (hb : en.builtins = builtinsNs)
    (h : ∀ h, c.ok h → ∃ mg mb, h.Ns mainGlobals mg ∧ mg x = none ∧ h.Ns builtinsNs mb ∧ mb x = some y) (hd : (x == ("__debug__" : Str)) = false := by decide) : Says c A (eval (.Name x pos) en) y := by
  intro h₀ s Q E ok k q
  obtain ⟨mg, mb, n1, e1, n2, e2⟩ := h h₀ ok
  exact Name_function_global hk hx (loadGlobal_builtin (env := en) (by rw [hg]; exact ns_at n1 (k _)) e1 (by rw [hb]; exact ns_at n2 (k _)) e2 q) hd
theorem Says.global {x : Str} {pos : Pos} {y : Value} (hk : en.scope.kind = .function) (hx : en.kindOf x = some .globalImplicit) (hg : en.globals = mainGlobals)
    (h : ∀ h, c.ok h → ∃ mg, h.Ns mainGlobals mg ∧ mg x = some y) (hd : (x == ("__debug__" : Str)) = false := by decide) : Says c A (eval (.Name x pos) en) y := by
  intro h₀ s Q E ok k q
  obtain ⟨mg, n1, e1⟩ := h h₀ ok
  exact Name_function_global hk hx (loadGlobal_global (env := en) (by rw [hg]; exact ns_at n1 (k _)) e1 q) hd

theorem callWith_one {id : String} {pos : Pos} {e : Expr} {s : Shared} {Q : Value → Shared → Prop} {E : Value → Shared → Prop} {M : Model} (h : wpAny M A (eval e en) (fun v s₁ => wpAny M A (call (.builtin id) [v]) Q E s₁) E s)
    (hs : starEach [e] en = [(false, eval e en)]) : wpAny M A (callWith pos (.builtin id) [] (backTo pos (starEach [e] en)) []) Q E s := by
  refine callWith_method1 (rest := []) (wpAny_items_cons (wpAny_mono h (fun v s₁ h₁ => ?_) fun _ _ e => e) hs) hs rfl
  exact wpAny_items_nil h₁

theorem EvE.call1 {f : Str} {p pos : Pos} {e : Expr} {id : String} {g : St → Option (V × St)} {op : List O → V → Option V} (hf : Says c A (eval (.Name f p) en) (.builtin id)) (he : EvE c A sl (eval e en) g)
    (ho : OpH c A (fun x => call (.builtin id) [x]) op) (hs : starEach [e] en = [(false, eval e en)] := by rfl) : EvE c A sl (eval (.Call (.Name f p) [e] [] pos) en) (unH g op) := by
  intro h₀ α σ s v σ' Q E ok I e' q
  unfold unH at e'
  split at e'
  · cases e'
  · rename_i a σ₁ e1
    split at e'
    · cases e'
    · rename_i v' e2
      cases e'
      rw [arm_eval_Call_Name']
      refine wpAny_bind (hf _ _ _ _ ok I.keep ?_)
      refine callWith_one (he _ _ _ _ _ _ _ _ ok I e1 fun α₁ x h₁ tk₁ p₁ r₁ I₁ => ?_) hs
      exact ho _ _ _ _ { s with heap := h₁, toks := tk₁ } _ _ _ _ _ ok I₁ r₁ e2 fun w h' tk rw k => q α₁ w h' tk p₁ rw (I₁.keeps k)

noncomputable def lenV (h : List O) : V → Option V
  | .str s => if s.length ≤ 100000 then some (.int 0 s.length) else none
  | .ref i => match h[i]? with
    | some (.list l) => if l.length ≤ 100000 then some (.int 0 l.length) else none
    | _ => none
  | _ => none

theorem Inv.list {z : Zt} {h₀ h : Heap} {α : List Addr} {σ : St} {i : Nat} {l : List V} {x : Value} (I : Inv z h₀ sl α σ h) (e : σ.h[i]? = some (.list l)) (r : Rep z α (.ref i) x) :
    ∃ a vs n, x = .ref a ∧ α[i]? = some a ∧ h.get? a = some { cls := .type "list", data := .seq (List.toArray vs) n } ∧ All2 (Rep z α) l vs := by
  obtain ⟨a, ob, e1, e2, e3⟩ := I.objs i _ e
  obtain ⟨b, f1, f2⟩ := r
  rw [e1] at f1; cases f1
  obtain ⟨vs, n, rfl, r⟩ := e3
  exact ⟨a, vs, n, f2, e1, e2, r⟩
theorem Inv.tup {z : Zt} {h₀ h : Heap} {α : List Addr} {σ : St} {i : Nat} {l : List V} {x : Value} (I : Inv z h₀ sl α σ h) (e : σ.h[i]? = some (.tup l)) (r : Rep z α (.ref i) x) :
    ∃ a vs n, x = .ref a ∧ α[i]? = some a ∧ h.get? a = some { cls := .type "tuple", data := .seq (List.toArray vs) n } ∧ All2 (Rep z α) l vs := by
  obtain ⟨a, ob, e1, e2, e3⟩ := I.objs i _ e
  obtain ⟨b, f1, f2⟩ := r
  rw [e1] at f1; cases f1
  obtain ⟨vs, n, rfl, r⟩ := e3
  exact ⟨a, vs, n, f2, e1, e2, r⟩
theorem isList_of {h : Heap} {a : Addr} {vs : List Value} {n : Nat} (e : h.get? a = some { cls := .type "list", data := .seq (List.toArray vs) n }) : h.IsList a vs.toArray := ⟨_, e, rfl, n, rfl⟩

theorem OpH.len : OpH c A (fun x => call (.builtin "len") [x]) lenV := by
  intro h₀ sl α σ s a v x Q E ok I r e q
  unfold lenV at e
  split at e
  · obtain ⟨t, rfl⟩ := r
    split at e
    · cases e
      refine P.len_str (by simp only [Str.length, List.size_toArray]; omega) (q _ s.heap _ (rep_int _ ?_) fun _ _ e => e)
      simp only [Str.length, List.size_toArray]; omega
    · cases e
  · rename_i i
    split at e
    · rename_i l e1
      split at e
      · cases e
        obtain ⟨b, vs, n, rfl, _, e2, e3⟩ := I.list e1 r
        have hl := e3.length
        refine call_len_list (isList_of e2) (by simp only [List.size_toArray]; omega) (q _ s.heap _ (rep_int _ ?_) fun _ _ e => e)
        simp only [List.size_toArray]; omega
      · cases e
    · cases e
  · cases e

noncomputable def chrV (_ : List O) : V → Option V
  | .int a b => if a = 0 ∧ 0 ≤ b ∧ b ≤ 1114111 then some (.str [b.toNat]) else none
  | _ => none
theorem OpH.chr : OpH c A (fun x => call (.builtin "chr") [x]) chrV := by
  intro h₀ sl α σ s a v x Q E ok I r e q
  unfold chrV at e
  split at e
  · obtain ⟨t, rfl⟩ := r
    split at e
    · rename_i h
      obtain ⟨rfl, h1, h2⟩ := h
      cases e
      have e0 : ∀ d : Int, (0 : Int) * c.z.n + d = d := by intro d; simp
      rw [e0]
      exact P.chr_of_int (by simp; omega) (q _ s.heap _ ⟨_, rfl⟩ fun _ _ e => e)
    · cases e
  · cases e

noncomputable def absV (_ : List O) : V → Option V
  | .int a b => if a = 0 then some (.int 0 (if b < 0 then -b else b)) else none
  | _ => none
theorem OpH.abs : OpH c A (fun x => call (.builtin "abs") [x]) absV := by
  intro h₀ sl α σ s a v x Q E ok I r e q
  unfold absV at e
  split at e
  · obtain ⟨t, rfl⟩ := r
    split at e
    · rename_i h
      subst h
      cases e
      have e0 : ∀ d : Int, (0 : Int) * c.z.n + d = d := by intro d; simp
      rw [e0]
      exact call_abs_int fun u tk => q _ s.heap _ (rep_int _ (by simp)) fun _ _ e => e
    · cases e
  · cases e
end
end Mine

-- M5
namespace Mine
section
variable {c : Cx} {A : Around} {sl : List Slot} {en : Env}

-- items of a list by an int
noncomputable def idxV (n : Nat) (k : Int) : Option Nat := if 0 ≤ k then (if k < n then some k.toNat else none) else (if -n ≤ k then some (k + n).toNat else none)
noncomputable def itemV (h : List O) : V → V → Option V
  | .ref i, .int a k => if a = 0 then match h[i]? with
    | some (.list l) => if l.length ≤ 100000 then match idxV l.length k with
      | some j => l[j]?
      | none => none else none
    | _ => none else none
  | _, _ => none

noncomputable def binH (fl fr : St → Option (V × St)) (g : List O → V → V → Option V) : St → Option (V × St) := fun σ =>
  match fl σ with
  | none => none
  | some (a, σ₁) => match fr σ₁ with
    | none => none
    | some (b, σ₂) => match g σ₂.h a b with
      | none => none
      | some v => some (v, σ₂)

theorem EvE.item {x y : Expr} {pos : Pos} {f g : St → Option (V × St)} (hx : EvE c A sl (eval x en) f) (hy : EvE c A sl (eval y en) g)
    (hs : ∀ o i, subscripted y false o i = operate [o, i] (getItem o i)) (ht : ∀ o r, letTemporaryGo x o r = pure ()) : EvE c A sl (eval (.Subscript x y pos) en) (binH f g itemV) := by
  intro h₀ α σ s v σ' Q E ok I e q
  unfold binH at e
  split at e
  · cases e
  · rename_i a σ₁ e1
    split at e
    · cases e
    · rename_i b σ₂ e2
      split at e
      · cases e
      · rename_i v' e3
        cases e
        refine Subscript_ (hx _ _ _ _ _ _ _ _ ok I e1 fun α₁ x h₁ tk₁ p₁ r₁ I₁ => ?_)
        refine hy _ _ _ _ _ _ _ _ ok I₁ e2 fun α₂ y h₂ tk₂ p₂ r₂ I₂ => ?_
        unfold itemV at e3
        split at e3
        · rename_i i a k
          split at e3
          · rename_i ha
            subst ha
            split at e3
            · rename_i l e4
              split at e3
              · rename_i hl
                split at e3
                · rename_i j e5
                  obtain ⟨t, rfl⟩ := r₂
                  obtain ⟨b, vs, n, rfl, _, e6, e7⟩ := I₂.list e4 (r₁.mono p₂)
                  obtain ⟨w, e8, rw⟩ := e7.get e3
                  have hlen := e7.length
                  have e0 : (0 : Int) * c.z.n + k = k := by simp
                  rw [e0]
                  have fin : Q w { s with heap := h₂, toks := tk₂ } := q α₂ w h₂ tk₂ (p₁.trans p₂) rw I₂
                  have L : h₂.IsList b vs.toArray := isList_of e6
                  unfold idxV at e5
                  have go : wpAny (model c.prog c.w) A (getItem (.ref b) (.int k t)) Q E { s with heap := h₂, toks := tk₂ } := by
                    split at e5
                    · split at e5
                      · cases e5
                        exact wpAny_getItem_list L (by assumption) (by omega) (by simpa using e8) fin
                      · cases e5
                    · split at e5
                      · cases e5
                        exact wpAny_getItem_list_neg L (by omega) (by simp only [List.size_toArray]; omega) (by omega) (by simp only [List.size_toArray, ← hlen]; simpa using e8) fin
                      · cases e5
                  exact tail_of_ItemOn ⟨"list", _, slot_list_getitem.lookup, L.typeIs, go⟩ (hs _ _) (ht _)
                · cases e3
              · cases e3
            · cases e3
          · cases e3
        · cases e3

-- parts of a slice
noncomputable def EvP (c : Cx) (A : Around) (sl : List Slot) (t : Sem Value) (f : St → Option (Option Int × St)) : Prop :=
  ∀ (h₀ : Heap) (α : List Addr) (σ : St) (s : Shared) (v : Option Int) (σ' : St) (Q : Value → Shared → Prop) (E : Value → Shared → Prop),
    c.ok h₀ → Inv c.z h₀ sl α σ s.heap → f σ = some (v, σ') →
    (∀ α' x h' tk, α <+: α' → IsPart x v → Inv c.z h₀ sl α' σ' h' → Q x { s with heap := h', toks := tk }) → wpAny (model c.prog c.w) A t Q E s
noncomputable def partF (f : St → Option (V × St)) : St → Option (Option Int × St) := fun σ =>
  match f σ with
  | some (.int a b, σ₁) => if a = 0 then some (some b, σ₁) else none
  | _ => none
theorem EvP.none : EvP c A sl (evalPart none en) (fun σ => some (none, σ)) := by
  intro h₀ α σ s v σ' Q E ok I e q
  cases e
  exact wpAny_evalPart_none (q α _ s.heap s.toks (List.prefix_refl _) .none I)
theorem EvP.some {x : Expr} {f : St → Option (V × St)} (hx : EvE c A sl (eval x en) f) : EvP c A sl (evalPart (some x) en) (partF f) := by
  intro h₀ α σ s v σ' Q E ok I e q
  unfold partF at e
  split at e
  · rename_i a b σ₁ e1
    split at e
    · rename_i ha
      subst ha
      cases e
      refine wpAny_evalPart_some (hx _ _ _ _ _ _ _ _ ok I e1 fun α₁ x h₁ tk₁ p₁ r₁ I₁ => ?_)
      obtain ⟨t, rfl⟩ := r₁
      have e0 : (0 : Int) * c.z.n + b = b := by simp
      rw [e0]
      exact q α₁ _ h₁ tk₁ p₁ (.int _ _) I₁
    · cases e
  · cases e

/-- the parts of a slice, one behind the other -/
noncomputable def parts (f g k : St → Option (Option Int × St)) : St → Option ((Option Int × Option Int × Option Int) × St) := fun σ =>
  match f σ with
  | none => none
  | some (a, σ₁) => match g σ₁ with
    | none => none
    | some (b, σ₂) => match k σ₂ with
      | none => none
      | some (d, σ₃) => some ((a, b, d), σ₃)
noncomputable def pickV (items : List V) (lo hi st : Option Int) : List V :=
  (sliceRange (sliceBounds lo hi st items.length).1 (sliceBounds lo hi st items.length).2.1 (sliceBounds lo hi st items.length).2.2).filterMap (items[·]?)
theorem pick_all {R : V → Value → Prop} {l : List V} {vs : List Value} (h : All2 R l vs) : ∀ ks : List Nat, All2 R (ks.filterMap (l[·]?)) (ks.filterMap (vs[·]?))
  | [] => .nil
  | k :: r => by
    rw [List.filterMap_cons, List.filterMap_cons]
    cases e : l[k]? with
    | none => rw [h.none e]; exact pick_all h r
    | some v =>
      obtain ⟨w, e', hr⟩ := h.get e
      rw [e']
      exact .cons hr (pick_all h r)

theorem EvSlice {lo hi st : Option Expr} {p : Pos} {f g k : St → Option (Option Int × St)} (hf : EvP c A sl (evalPart lo en) f) (hg : EvP c A sl (evalPart hi en) g) (hk : EvP c A sl (evalPart st en) k)
    {h₀ : Heap} {α : List Addr} {σ σ' : St} {s : Shared} {a b d : Option Int} {Q : Value → Shared → Prop} {E : Value → Shared → Prop} (ok : c.ok h₀) (I : Inv c.z h₀ sl α σ s.heap) (e : parts f g k σ = some ((a, b, d), σ'))
    (q : ∀ α' va vb vd h' tk, α <+: α' → IsPart va a → IsPart vb b → IsPart vd d → Inv c.z h₀ sl α' σ' h' → Q (.ref h'.objs.size) { s with heap := h'.push { cls := .type "slice", data := .fields #[va, vb, vd] }, toks := tk }) :
    wpAny (model c.prog c.w) A (eval (.Slice lo hi st p) en) Q E s := by
  unfold parts at e
  split at e
  · cases e
  · rename_i a' σ₁ e1
    split at e
    · cases e
    · rename_i b' σ₂ e2
      split at e
      · cases e
      · rename_i d' σ₃ e3
        cases e
        refine wpAny_Slice (hf _ _ _ _ _ _ _ _ ok I e1 fun α₁ x h₁ tk₁ p₁ r₁ I₁ => ?_)
        refine hg _ _ _ _ _ _ _ _ ok I₁ e2 fun α₂ y h₂ tk₂ p₂ r₂ I₂ => ?_
        refine hk _ _ _ _ _ _ _ _ ok I₂ e3 fun α₃ w h₃ tk₃ p₃ r₃ I₃ => ?_
        exact q α₃ x y w h₃ tk₃ ((p₁.trans p₂).trans p₃) r₁ r₂ r₃ I₃

noncomputable def sliceF (f : St → Option (V × St)) (g : St → Option ((Option Int × Option Int × Option Int) × St)) : St → Option (V × St) := fun σ =>
  match f σ with
  | some (.ref i, σ₁) => match g σ₁ with
    | some ((a, b, d), σ₂) => if d = some 0 then none else match σ₂.h[i]? with
      | some (.list l) => if l.length ≤ 100000 then some (.ref σ₂.h.length, { σ₂ with h := σ₂.h ++ [.list (pickV l a b d)] }) else none
      | _ => none
    | none => none
  | _ => none
theorem EvE.slice {x : Expr} {lo hi st : Option Expr} {p pos : Pos} {f : St → Option (V × St)} {f₁ f₂ f₃ : St → Option (Option Int × St)} (hx : EvE c A sl (eval x en) f) (hf : EvP c A sl (evalPart lo en) f₁) (hg : EvP c A sl (evalPart hi en) f₂) (hk : EvP c A sl (evalPart st en) f₃)
    (hs : ∃ sw : Bool, ∀ o i, subscripted (.Slice lo hi st p) false o i = operate (if sw then [i, o] else [o, i]) (getItem o i)) (ht : ∀ o r, letTemporaryGo x o r = pure ()) :
    EvE c A sl (eval (.Subscript x (.Slice lo hi st p) pos) en) (sliceF f (parts f₁ f₂ f₃)) := by
  intro h₀ α σ s v σ' Q E ok I e q
  unfold sliceF at e
  split at e
  · rename_i i σ₁ e1
    split at e
    · rename_i a b d σ₂ e2
      split at e
      · cases e
      · rename_i hd
        split at e
        · rename_i l e3
          split at e
          · rename_i hl
            cases e
            refine Subscript_ (hx _ _ _ _ _ _ _ _ ok I e1 fun α₁ x h₁ tk₁ p₁ r₁ I₁ => ?_)
            refine EvSlice hf hg hk ok I₁ e2 fun α₂ va vb vd h₂ tk₂ p₂ ra rb rd I₂ => ?_
            obtain ⟨n, vs, m, rfl, _, e4, e5⟩ := I₂.list e3 (r₁.mono p₂)
            have e4' := Heap.get?_push_of_some { cls := .type "slice", data := .fields #[va, vb, vd] } e4
            obtain ⟨sw, hs⟩ := hs
            refine tail_of_ItemOn ⟨"list", _, slot_list_getitem.lookup, (isList_of e4').typeIs, ?_⟩ (hs _ _) (ht _)
            refine wpAny_getItem_list_slice (isList_of e4') (Heap.IsSliceOf.new ..) ra rb rd hd ?_ (by simp only [List.size_toArray, sizeLine_eq, ← e5.length]; omega)
            have I₃ := I₂.keeps (h' := h₂.push { cls := .type "slice", data := .fields #[va, vb, vd] }) fun _ _ e => Heap.get?_push_of_some _ e
            refine q (α₂ ++ [_]) _ _ tk₂ ((p₁.trans p₂).trans (List.prefix_append _ _)) ⟨_, ?_, rfl⟩ (I₃.alloc (ob := { cls := .type "list", data := .seq (slicePick vs.toArray a b d) }) ⟨(slicePick vs.toArray a b d).toList, 0, by simp, ?_⟩ (Heap.get?_push_size _ rfl) fun b o e => Heap.get?_push_of_some _ e)
            · rw [← I₂.len]; simp
            · unfold slicePick pickV
              rw [List.size_toArray, ← e5.length]
              simp only [List.getElem?_toArray]
              exact pick_all e5 _
          · cases e
        · cases e
    · cases e
  · cases e

-- x[:k] of a text
noncomputable def takeF (f : St → Option (V × St)) (g : St → Option (V × St)) : St → Option (V × St) := fun σ =>
  match f σ with
  | some (.str l, σ₁) => match g σ₁ with
    | some (.int a k, σ₂) => if a = 0 ∧ 0 ≤ k ∧ k ≤ l.length ∧ l.length ≤ 100000 then some (.str (l.take k.toNat), σ₂) else none
    | _ => none
  | _ => none
theorem EvE.take {x y : Expr} {p pos : Pos} {f g : St → Option (V × St)} (hx : EvE c A sl (eval x en) f) (hy : EvE c A sl (eval y en) g) (ht : ∀ o r, letTemporaryGo x o r = pure ()) :
    EvE c A sl (eval (.Subscript x (.Slice none (some y) none p) pos) en) (takeF f g) := by
  intro h₀ α σ s v σ' Q E ok I e q
  unfold takeF at e
  split at e
  · rename_i l σ₁ e1
    split at e
    · rename_i a k σ₂ e2
      split at e
      · rename_i hk
        obtain ⟨rfl, h0, h1, h2⟩ := hk
        cases e
        refine Subscript_ (hx _ _ _ _ _ _ _ _ ok I e1 fun α₁ x h₁ tk₁ p₁ r₁ I₁ => ?_)
        obtain ⟨t, rfl⟩ := r₁
        refine wpAny_Slice (wpAny_evalPart_none (wpAny_evalPart_some (hy _ _ _ _ _ _ _ _ ok I₁ e2 fun α₂ y h₂ tk₂ p₂ r₂ I₂ => wpAny_evalPart_none ?_)))
        obtain ⟨u, rfl⟩ := r₂
        have e0 : (0 : Int) * c.z.n + k = k := by simp
        rw [e0]
        refine tail_of_ItemOn (SBH.sliceItem_ns (P := fun h => ∀ b o, h₂.get? b = some o → h.get? b = some o) (s := { s with heap := h₂, toks := tk₂ }) (fun h ob hp b o e => Heap.get?_push_of_some _ (hp b o e)) (fun _ _ e => e) (fun h' t' tk hp => ?_) (by simp only [Str.length, List.size_toArray, sizeLine_eq]; omega)) rfl (ht _)
        have es : Txt.slice ⟨l.toArray⟩ none (some k) = ⟨(l.take k.toNat).toArray⟩ := by
          have := slice_closes_to (x := ⟨l.toArray⟩) (j := k) ⟨h0, by simpa using h1⟩
          rw [eq_of_beq this]
          simp
        rw [es]
        exact q α₂ _ h' tk (p₁.trans p₂) ⟨_, rfl⟩ (I₂.keeps hp)
      · cases e
    · cases e
  · cases e

-- x.append(y) for a name x
noncomputable def appF (i : Nat) (g : St → Option (V × St)) : St → Option (V × St) := fun σ =>
  match getF i σ with
  | some (.ref j, σ₀) => match σ₀.h[j]? with
    | some (.list _) => match g σ₀ with
      | none => none
      | some (v, σ₁) => match σ₁.h[j]? with
        | some (.list l) => if l.length ≤ 100000 then some (.nil, { σ₁ with h := σ₁.h.set j (.list (l ++ [v])) }) else none
        | _ => none
    | _ => none
  | _ => none

/-- the append itself -/
theorem append_step {h₀ : Heap} {α : List Addr} {σ : St} {s : Shared} {j : Nat} {l : List V} {v : V} {x y : Value} {Q : Value → Shared → Prop} {E : Value → Shared → Prop} (I : Inv c.z h₀ sl α σ s.heap)
    (e : σ.h[j]? = some (.list l)) (hl : l.length ≤ 100000) (rx : Rep c.z α (.ref j) x) (ry : Rep c.z α v y) (q : ∀ h' tk, Inv c.z h₀ sl α { σ with h := σ.h.set j (.list (l ++ [v])) } h' → Q .none { s with heap := h', toks := tk }) :
    wpAny (model c.prog c.w) A (call (.builtin "list.append") [x, y]) Q E s := by
  obtain ⟨a, vs, n, rfl, e1, e2, e3⟩ := I.list e rx
  refine wpAny_list_append_plain ⟨n, e2⟩ (fun h' p sb => ?_) (by simp only [List.size_toArray, sizeLine_eq, ← e3.length]; omega)
  obtain ⟨m, e4⟩ := p
  exact q h' s.toks (I.setObj e1 ⟨vs ++ [y], m, by simp, e3.snoc ry⟩ e4 sb.2)

theorem EvE.append {x : Str} {p apos pos : Pos} {y : Expr} {i : Nat} {g : St → Option (V × St)} (a : Acc en sl x i) (hy : EvE c A sl (eval y en) g)
    (hb : attributeBase (.Name x p) "append" en (eval (.Name x p) en) = eval (.Name x p) en := by rfl) (hl : (apos.endLine == pos.line) = true := by rfl) (hs : starEach [y] en = [(false, eval y en)] := by rfl)
    (hd : (x == ("__debug__" : Str)) = false := by decide) : EvE c A sl (eval (.Call (.Attribute (.Name x p) "append" apos) [y] [] pos) en) (appF i g) := by
  intro h₀ α σ s v σ' Q E ok I e q
  unfold appF at e
  split at e
  · rename_i j σ₀ e1
    split at e
    · rename_i l' e0
      split at e
      · cases e
      · rename_i w σ₁ e2
        split at e
        · rename_i l e3
          split at e
          · rename_i hlen
            cases e
            have hf : ((backTo pos (starEach [y] en)).all (fun x => !x.1) && (backToKw pos (keywordEach [] en)).all (fun x => x.1.isSome)
              && decide ([y].length + ([] : List Keyword).length + (if ([] : List Keyword).isEmpty then 0 else 1) < 30)) = true := by rw [hs]; rfl
            refine wpAny_Call_method_late hb hf hl rfl ((EvE.name a hd) _ _ _ _ _ _ _ _ ok I e1 fun α₁ x h₁ tk₁ p₁ r₁ I₁ => ?_)
            obtain ⟨b, vs, n, rfl, rb, f2, _⟩ := I₁.list e0 r₁
            refine ⟨"list", "list.append", F.plainAttrs_list, slot_list_append, type_list_append, ⟨_, f2, rfl⟩, fun a' h => ⟨_, by cases h; exact f2, rfl⟩, ?_⟩
            refine callWith_method1 (rest := []) (wpAny_items_cons (hy _ _ _ _ _ _ _ _ ok I₁ e2 fun α₂ y h₂ tk₂ p₂ r₂ I₂ => wpAny_items_nil ?_) hs) hs rfl
            exact append_step (s := { s with heap := h₂, toks := tk₂ }) I₂ e3 hlen (Rep.mono p₂ (v := .ref j) ⟨b, rb, rfl⟩) r₂ fun h' tk I' => q α₂ _ h' tk (p₁.trans p₂) rfl I'
          · cases e
        · cases e
    · cases e
  · cases e
end
end Mine

-- M6
namespace Mine

theorem Inv.rebase {z : Zt} {h₀ h : Heap} {sl : List Slot} {α : List Addr} {σ : St} (I : Inv z h₀ sl α σ h) :
    ∃ g, (∀ b o, h₀.get? b = some o → g.get? b = some o) ∧ Inv z g sl α σ h ∧ (∀ b o, h.get? b = some o → b ∉ α → (∀ t ∈ sl, t.base ≠ b) → g.get? b = some o) := by
  have off : ∀ b, b ∉ α → (∀ t ∈ sl, t.base ≠ b) → b ∉ sl.map Slot.base ++ α := fun b h1 h2 hm => by
    rcases List.mem_append.mp hm with hm | hm
    · obtain ⟨t, ht, e⟩ := List.mem_map.mp hm
      exact h2 t ht e
    · exact h1 hm
  refine ⟨hideAll h (sl.map Slot.base ++ α), fun b o e => hideAll_get _ (I.keep b o e) (off b (fun hm => ?_) fun t ht q => ?_), ?_, fun b o e h1 h2 => hideAll_get _ e (off b h1 h2)⟩
  · rw [I.fresh b hm] at e; cases e
  · rw [← q, I.freshS t ht] at e; cases e
  · exact { I with
      keep := fun b o e => of_hideAll _ e
      fresh := fun a ha => hideAll_none _ (List.mem_append_right _ ha)
      freshS := fun s hs => hideAll_none _ (List.mem_append_left _ (List.mem_map_of_mem hs)) }
theorem Inv.back {z : Zt} {h₀ g h : Heap} {sl : List Slot} {α : List Addr} {σ : St} (I : Inv z g sl α σ h) (k : ∀ b o, h₀.get? b = some o → g.get? b = some o) : Inv z h₀ sl α σ h :=
  have none : ∀ a, g.get? a = Option.none → h₀.get? a = Option.none := fun a e => by
    cases q : h₀.get? a with
    | none => rfl
    | some o => rw [k a o q] at e; cases e
  { I with
    keep := fun b o e => I.keep b o (k b o e)
    fresh := fun a ha => none a (I.fresh a ha)
    freshS := fun s hs => none _ (I.freshS s hs) }

/-- what a loop runs over, from here on -/
inductive Src where
  | list (j i : Nat)
  | range (x : Int) (n : Nat) (step : Int)
  | str (rest : List Nat)

noncomputable def nextL (h : List O) (j i : Nat) : Option (Option (V × Src)) := match h[j]? with
  | some (.list l) => match l[i]? with
    | some v => some (some (v, .list j (i + 1)))
    | none => some none
  | _ => none
noncomputable def nextR (x : Int) (n : Nat) (st : Int) : Option (V × Src) := match n with
  | 0 => none
  | n + 1 => some (.int 0 x, .range (x + st) n st)
noncomputable def nextS (r : List Nat) : Option (V × Src) := match r with
  | [] => none
  | a :: r => some (.str [a], .str r)
noncomputable def next (s : Src) (σ : St) : Option (Option (V × Src)) := match s with
  | .list j i => nextL σ.h j i
  | .range x n st => some (nextR x n st)
  | .str r => some (nextS r)

noncomputable def SrcAt (α : List Addr) (h : Heap) (I : Addr) : Src → Prop
  | .list j i => ∃ a, α[j]? = some a ∧ h.IsListIter I a i
  | .range x n st => IsRangeIter h I x n st
  | .str rest => ∃ ty x t i, (ty = "str_ascii_iterator" ∨ ty = "str_iterator") ∧ h.IsStrIter I ty x t i ∧ x.cps.toList.drop i = rest

theorem SrcAt.at {α β : List Addr} {h h' : Heap} {I : Addr} (p : α <+: β) (e : ∀ o, h.get? I = some o → h'.get? I = some o) : ∀ {s : Src}, SrcAt α h I s → SrcAt β h' I s
  | .list _ _, ⟨a, e1, o, e2, r⟩ => ⟨a, pre_get p e1, o, e _ e2, r⟩
  | .range _ _ _, x => e _ x
  | .str _, ⟨ty, x, t, i, hty, ⟨o, e2, r⟩, d⟩ => ⟨ty, x, t, i, hty, ⟨o, e _ e2, r⟩, d⟩

section
variable {c : Cx} {A : Around} {sl : List Slot} {en : Env}

theorem Inv.changed {h₀ h h' : Heap} {α : List Addr} {σ : St} {I : Addr} (J : Inv c.z h₀ sl α σ h) (h1 : I ∉ α) (h2 : ∀ t ∈ sl, t.base ≠ I) (h3 : h₀.get? I = none) (k : ∀ b o, b ≠ I → h.get? b = some o → h'.get? b = some o) : Inv c.z h₀ sl α σ h' where
  keep := fun b o e => k b o (fun q => by rw [q, h3] at e; cases e) (J.keep b o e)
  live := fun s hs => (J.live s hs).at fun o e => k _ o (h2 s hs) e
  vars := fun i v e => let ⟨s, x, e1, e2, e3⟩ := J.vars i v e; ⟨s, x, e1, e2.at fun o e => k _ o (h2 s (List.mem_of_getElem? e1)) e, e3⟩
  objs := fun i o e => let ⟨a, ob, e1, e2, e3⟩ := J.objs i o e; ⟨a, ob, e1, k _ _ (fun q => h1 (q ▸ List.mem_of_getElem? e1)) e2, e3⟩
  len := J.len
  apart := J.apart
  nodup := J.nodup
  sep := J.sep
  fresh := J.fresh
  freshS := J.freshS

theorem next_item (_hc : A.handled = none) {h₀ : Heap} {α : List Addr} {σ : St} {s : Shared} {I : Addr} {src src' : Src} {v : V} {Q : Option Value → Shared → Prop} {E : Value → Shared → Prop} (J : Inv c.z h₀ sl α σ s.heap) (S : SrcAt α s.heap I src)
    (h1 : I ∉ α) (h2 : ∀ t ∈ sl, t.base ≠ I) (h3 : h₀.get? I = none) (e : next src σ = some (some (v, src')))
    (q : ∀ x h' tk, Rep c.z α v x → Inv c.z h₀ sl α σ h' → SrcAt α h' I src' → Q (some x) { s with heap := h', toks := tk }) : wpAny (model c.prog c.w) A (pyNext (.ref I)) Q E s := by
  cases src with
  | list j i =>
    replace e : nextL σ.h j i = _ := e
    unfold nextL at e
    split at e
    · rename_i l e1
      split at e
      · rename_i w e2
        cases e
        obtain ⟨a, e3, it⟩ := S
        obtain ⟨b, vs, n, f0, f1, f2, f3⟩ := J.list e1 (x := .ref a) ⟨a, e3, rfl⟩
        cases f0
        obtain ⟨y, g1, g2⟩ := f3.get e2
        refine wpAny_pyNext_list_item it (isList_of f2) (x := y) (by simpa using g1) fun h' it' sb => ?_
        exact q y h' s.toks g2 (J.changed h1 h2 h3 fun b o hb e => by rw [sb.2 b hb]; exact e) ⟨a, e3, it'⟩
      · cases e
    · cases e
  | range x n st =>
    cases n with
    | zero => cases e
    | succ n =>
      cases e
      refine wpAny_pyNext_range_item S (by omega) fun h' it' sb => ?_
      refine q _ h' _ (rep_int _ (by simp)) (J.changed h1 h2 h3 fun b o hb e => by rw [sb.2 b hb]; exact e) ?_
      have e1 : ((n + 1 : Nat) : Int) - 1 = (n : Int) := by omega
      rw [e1] at it'
      exact it'
  | str rest =>
    cases rest with
    | nil => cases e
    | cons a r =>
      cases e
      obtain ⟨ty, x, t, i, hty, it, d⟩ := S
      have hx : x.cps[i]? = some a := by
        have := congrArg (fun l => l[0]?) d
        simpa using this
      have hd : x.cps.toList.drop (i + 1) = r := by
        have := congrArg List.tail d
        simpa [List.tail_drop] using this
      rcases hty with rfl | rfl
      · exact wpAny_pyNext_ascii_item it hx fun h' it' sb => q _ h' _ ⟨_, rfl⟩ (J.changed h1 h2 h3 fun b o hb e => by rw [sb.2 b hb]; exact e) ⟨_, x, t, i + 1, .inl rfl, it', hd⟩
      · exact wpAny_pyNext_wide_item it hx fun h' it' sb => q _ h' _ ⟨_, rfl⟩ (J.changed h1 h2 h3 fun b o hb e => by rw [sb.2 b hb]; exact e) ⟨_, x, t, i + 1, .inr rfl, it', hd⟩

theorem next_end (hc : A.handled = none) {h₀ : Heap} {α : List Addr} {σ : St} {s : Shared} {I : Addr} {src : Src} {Q : Option Value → Shared → Prop} {E : Value → Shared → Prop} (J : Inv c.z h₀ sl α σ s.heap) (S : SrcAt α s.heap I src)
    (h1 : I ∉ α) (h2 : ∀ t ∈ sl, t.base ≠ I) (h3 : h₀.get? I = none) (e : next src σ = some none) (q : ∀ h' tk, Inv c.z h₀ sl α σ h' → Q none { s with heap := h', toks := tk }) : wpAny (model c.prog c.w) A (pyNext (.ref I)) Q E s := by
  cases src with
  | list j i =>
    replace e : nextL σ.h j i = _ := e
    unfold nextL at e
    split at e
    · rename_i l e1
      split at e
      · cases e
      · rename_i e2
        obtain ⟨a, e3, it⟩ := S
        obtain ⟨b, vs, n, f0, f1, f2, f3⟩ := J.list e1 (x := .ref a) ⟨a, e3, rfl⟩
        cases f0
        refine wpAny_pyNext_list_end hc it (isList_of f2) (by simpa using f3.none e2) fun h' sb => ?_
        exact q h' s.toks (J.changed h1 h2 h3 fun b o hb e => sb b o hb e)
    · cases e
  | range x n st =>
    cases n with
    | succ n => cases e
    | zero => exact wpAny_pyNext_range_end hc S (by omega) fun h' sb => q h' s.toks (J.changed h1 h2 h3 fun b o hb e => sb b o hb e)
  | str rest =>
    cases rest with
    | cons a r => cases e
    | nil =>
      obtain ⟨ty, x, t, i, hty, it, d⟩ := S
      have hx : x.cps[i]? = none := by
        rw [List.drop_eq_nil_iff] at d
        rw [Array.getElem?_eq_none_iff]; simpa using d
      rcases hty with rfl | rfl
      · exact wpAny_pyNext_ascii_end hc it hx fun h' sb => q h' s.toks (J.changed h1 h2 h3 fun b o hb e => sb b o hb e)
      · exact wpAny_pyNext_wide_end hc it hx fun h' sb => q h' s.toks (J.changed h1 h2 h3 fun b o hb e => sb b o hb e)

noncomputable def setV (σ : St) (i : Nat) (v : V) : St := { σ with v := σ.v.set i (some v) }
noncomputable def forF (i : Nat) (body : St → Option (Fl × St)) : Nat → Src → St → Option St
  | 0, _, _ => none
  | n + 1, src, σ => match next src σ with
    | none => none
    | some none => some σ
    | some (some (v, src')) => match body (setV σ i v) with
      | some (.next, σ') => forF i body n src' σ'
      | _ => none

/-- an iterable: its tree, then the iterator made of it -/
noncomputable def EvI (c : Cx) (A : Around) (sl : List Slot) (t : Sem Value) (f : St → Option (Src × St)) : Prop :=
  ∀ (h₀ : Heap) (α : List Addr) (σ : St) (s : Shared) (src : Src) (σ' : St) (Q : Value → Shared → Prop) (E : Value → Shared → Prop),
    c.ok h₀ → Inv c.z h₀ sl α σ s.heap → f σ = some (src, σ') →
    (∀ α' I h' tk, α <+: α' → Inv c.z h₀ sl α' σ' h' → SrcAt α' h' I src → I ∉ α' → (∀ t ∈ sl, t.base ≠ I) → h₀.get? I = none → Q (.ref I) { s with heap := h', toks := tk }) →
    wpAny (model c.prog c.w) A t (fun x s₁ => wpAny (model c.prog c.w) A (pyIter x) Q E s₁) E s

theorem new_off {h₀ h : Heap} {α : List Addr} {σ : St} {z : Zt} (J : Inv z h₀ sl α σ h) : h.objs.size ∉ α ∧ (∀ t ∈ sl, t.base ≠ h.objs.size) ∧ h₀.get? h.objs.size = none :=
  ⟨fun hm => Nat.lt_irrefl _ (J.lt hm), fun t ht => Nat.ne_of_lt (J.base_lt ht), J.new_h₀⟩

noncomputable def iterF (f : St → Option (V × St)) : St → Option (Src × St) := fun σ =>
  match f σ with
  | some (.ref j, σ₁) => match σ₁.h[j]? with
    | some (.list _) => some (.list j 0, σ₁)
    | _ => none
  | some (.str l, σ₁) => some (.str l, σ₁)
  | _ => none
theorem EvI.value {t : Sem Value} {f : St → Option (V × St)} (h : EvE c A sl t f) : EvI c A sl t (iterF f) := by
  intro h₀ α σ s src σ' Q E ok I e q
  unfold iterF at e
  split at e
  · rename_i j σ₁ e1
    split at e
    · rename_i l e2
      cases e
      refine h _ _ _ _ _ _ _ _ ok I e1 fun α₁ x h₁ tk₁ p₁ r₁ I₁ => ?_
      obtain ⟨a, vs, n, rfl, e3, e4, _⟩ := I₁.list e2 r₁
      obtain ⟨o1, o2, o3⟩ := new_off I₁
      refine wpAny_pyIter_list (isList_of e4) (q α₁ _ _ tk₁ p₁ (I₁.keeps fun _ _ e => Heap.get?_push_of_some _ e) ⟨a, e3, _, Heap.get?_push_size _ rfl, rfl, rfl⟩ o1 o2 o3)
    · cases e
  · rename_i l σ₁ e1
    cases e
    refine h _ _ _ _ _ _ _ _ ok I e1 fun α₁ x h₁ tk₁ p₁ r₁ I₁ => ?_
    obtain ⟨t, rfl⟩ := r₁
    obtain ⟨o1, o2, o3⟩ := new_off I₁
    cases hc : (⟨l.toArray⟩ : Str).cps.all (· < 128) with
    | true => exact wpAny_pyIter_ascii hc (q α₁ _ _ tk₁ p₁ (I₁.keeps fun _ _ e => Heap.get?_push_of_some _ e) ⟨_, _, t, 0, .inl rfl, ⟨_, Heap.get?_push_size _ rfl, rfl, rfl⟩, by simp⟩ o1 o2 o3)
    | false => exact wpAny_pyIter_wide hc (q α₁ _ _ tk₁ p₁ (I₁.keeps fun _ _ e => Heap.get?_push_of_some _ e) ⟨_, _, t, 0, .inr rfl, ⟨_, Heap.get?_push_size _ rfl, rfl, rfl⟩, by simp⟩ o1 o2 o3)
  · cases e

-- range(e), range(a, b, s)
noncomputable def range1F (f : St → Option (V × St)) : St → Option (Src × St) := fun σ =>
  match f σ with
  | some (.int a b, σ₁) => if a = 0 ∧ 0 ≤ b ∧ b < 1000000 then some (.range 0 b.toNat 1, σ₁) else none
  | _ => none
theorem callWith_t {T : String} {pos : Pos} {e : Expr} {r : List Expr} {s : Shared} {Q : Value → Shared → Prop} {E : Value → Shared → Prop} {M : Model} (h : wpAny M A (spliced (backTo pos (starEach (e :: r) en))) (fun vs s₁ => wpAny M A (call (.type T) vs) Q E s₁) E s)
    (hs : starEach (e :: r) en = (false, eval e en) :: starEach r en) (hp : (backTo pos (starEach r en)).any (·.1) = false) : wpAny M A (callWith pos (.type T) [] (backTo pos (starEach (e :: r) en)) []) Q E s :=
  PyProof.Rows.callWith_type1 h hs hp

theorem EvI.range1 {f : Str} {p pos : Pos} {e : Expr} {g : St → Option (V × St)} (hf : Says c A (eval (.Name f p) en) (.type "range")) (he : EvE c A sl (eval e en) g)
    (hs : starEach [e] en = [(false, eval e en)] := by rfl) : EvI c A sl (eval (.Call (.Name f p) [e] [] pos) en) (range1F g) := by
  intro h₀ α σ s src σ' Q E ok I e' q
  unfold range1F at e'
  split at e'
  · rename_i a b σ₁ e1
    split at e'
    · rename_i hb
      obtain ⟨rfl, h0, h1⟩ := hb
      cases e'
      rw [arm_eval_Call_Name']
      refine wpAny_bind (hf _ _ _ _ ok I.keep ?_)
      refine callWith_t (r := []) (wpAny_items_cons (he _ _ _ _ _ _ _ _ ok I e1 fun α₁ x h₁ tk₁ p₁ r₁ I₁ => wpAny_items_nil ?_) hs) hs rfl
      obtain ⟨t, rfl⟩ := r₁
      have e0 : (0 : Int) * c.z.n + b = b := by simp
      rw [e0]
      refine call_range_1 ?_
      have I₂ := I₁.keeps (h' := h₁.push { cls := .type "range", data := .fields #[.int 0 tk₁, .int b t, .int 1 (tk₁ + 1)] }) fun _ _ e => Heap.get?_push_of_some _ e
      obtain ⟨o1, o2, o3⟩ := new_off I₂
      refine wpAny_pyIter_range (IsRange.new ..) (small_one (by omega) (by omega) (by omega) (by omega)) (q α₁ _ _ _ p₁ (I₂.keeps fun _ _ e => Heap.get?_push_of_some _ e) ?_ o1 o2 o3)
      have e2 : Builtin.Range.rangeSize 0 b 1 = ((b.toNat : Nat) : Int) := by
        rw [rangeSize_one]; split <;> omega
      rw [e2]
      exact Heap.get?_push_size _ rfl
    · cases e'
  · cases e'

noncomputable def forS (fuel i : Nat) (f : St → Option (Src × St)) (g : St → Option (Fl × St)) : St → Option (Fl × St) := fun σ =>
  match f σ with
  | none => none
  | some (src, σ₁) => match forF i g fuel src σ₁ with
    | none => none
    | some σ₂ => some (.next, σ₂)
theorem ExS.for_ {x : Str} {px pos : Pos} {iter : Expr} {body : List Stmt} {i : Nat} {f : St → Option (Src × St)} {g : St → Option (Fl × St)} (fuel : Nat) (hc : A.handled = none) (a : AccS en sl x i) (hi : EvI c A sl (eval iter en) f) (hb : ExS c A sl (execs body en) g)
    (hs : ∀ x, foldedSetIterable iter en x = pure x := by intro _; rfl) :
    ExS c A sl (exec (.For (.Name x px) iter body [] pos) en) (forS fuel i f g) := by
  intro h₀ α σ s v σ' Q E ok I e q
  unfold forS at e
  split at e
  · cases e
  · rename_i src σ₁ e1
    split at e
    · cases e
    · rename_i σ₂ e2
      cases e
      refine wpAny_For (hi _ _ _ _ _ _ _ _ ok I e1 fun α₁ it h₁ tk₁ p₁ I₁ S o1 o2 o3 => ?_) hs
      refine codeAny_forLoop_any (fun n s' => ∃ α₂ src σ₃ h₂ tk₂, s' = { s with heap := h₂, toks := tk₂ } ∧ forF i g n src σ₃ = some σ' ∧ α <+: α₂ ∧ Inv c.z h₀ sl α₂ σ₃ h₂ ∧ SrcAt α₂ h₂ it src ∧ it ∉ α₂) ?_ fuel
        ⟨α₁, src, σ₁, h₁, tk₁, rfl, e2, p₁, I₁, S, o1⟩
      rintro n s' ⟨α₂, src, σ₃, h₂, tk₂, rfl, e3, p₂, I₂, S₂, o4⟩
      cases n with
      | zero => cases e3
      | succ n =>
        unfold forF at e3
        split at e3
        · cases e3
        · rename_i e4
          cases e3
          exact next_end (s := { s with heap := h₂, toks := tk₂ }) hc I₂ S₂ o4 o2 o3 e4 fun h' tk I' => wpAny_execs_nil (q α₂ _ h' tk p₂ rfl I')
        · rename_i v src' e4
          split at e3
          · rename_i σ₄ e5
            refine next_item (s := { s with heap := h₂, toks := tk₂ }) hc I₂ S₂ o4 o2 o3 e4 fun y h₃ tk₃ r₃ I₃ S₃ => ?_
            refine wpAny_pure (wpAny_assign_Name ?_)
            obtain ⟨g₀, k1, I₄, k2⟩ := I₃.rebase
            obtain ⟨oI, eI⟩ : ∃ o, h₃.get? it = some o := by
              cases src' with
              | list j i => obtain ⟨_, _, o, e, _⟩ := S₃; exact ⟨o, e⟩
              | range x n st => exact ⟨_, S₃⟩
              | str r => obtain ⟨_, _, _, _, _, ⟨o, e, _⟩, _⟩ := S₃; exact ⟨o, e⟩
            have gI := k2 it oI eI o4 o2
            refine store_acc (s := { s with heap := h₃, toks := tk₃ }) a I₄ r₃ fun h₄ tk₄ I₅ => ?_
            refine hb g₀ α₂ _ { s with heap := h₄, toks := tk₄ } _ _ _ _ (c.mono _ _ ok k1) I₅ e5 fun α₆ fl h₆ tk₆ p₆ r₆ I₆ => ?_
            cases r₆
            refine ⟨n, Nat.lt_succ_self _, α₆, src', σ₄, h₆, tk₆, rfl, e3, p₂.trans p₆, I₆.back k1, S₃.at p₆ (fun o e => ?_), ?_⟩
            · rw [eI] at e; cases e
              exact I₆.keep it _ gI
            · intro hm
              have := I₆.fresh it hm
              rw [gI] at this; cases this
          · cases e3

noncomputable def whileF (t : St → Option (Bool × St)) (body : St → Option (Fl × St)) : Nat → St → Option St
  | 0, _ => none
  | n + 1, σ => match t σ with
    | none => none
    | some (false, σ₁) => some σ₁
    | some (true, σ₁) => match body σ₁ with
      | some (.next, σ₂) => whileF t body n σ₂
      | _ => none
noncomputable def whileS (fuel : Nat) (t : St → Option (Bool × St)) (g : St → Option (Fl × St)) : St → Option (Fl × St) := fun σ =>
  match whileF t g fuel σ with
  | none => none
  | some σ₂ => some (.next, σ₂)
theorem ExS.while_ {x : Expr} {body : List Stmt} {pos : Pos} {t : St → Option (Bool × St)} {g : St → Option (Fl × St)} (fuel : Nat) (ht : EvB c A sl (isTrue x en (eval x en)) t) (hb : ExS c A sl (execs body en) g) :
    ExS c A sl (exec (.While x body [] pos) en) (whileS fuel t g) := by
  intro h₀ α σ s v σ' Q E ok I e q
  unfold whileS at e
  split at e
  · cases e
  · rename_i σ₂ e2
    cases e
    refine wpAny_While ?_
    refine codeAny_whileLoop (fun n s' => ∃ α₂ σ₃ h₂ tk₂, s' = { s with heap := h₂, toks := tk₂ } ∧ whileF t g n σ₃ = some σ' ∧ α <+: α₂ ∧ Inv c.z h₀ sl α₂ σ₃ h₂) ?_ fuel ⟨α, σ, s.heap, s.toks, rfl, e2, List.prefix_refl _, I⟩
    rintro n s' ⟨α₂, σ₃, h₂, tk₂, rfl, e3, p₂, I₂⟩
    cases n with
    | zero => cases e3
    | succ n =>
      unfold whileF at e3
      split at e3
      · cases e3
      · rename_i σ₄ e4
        cases e3
        refine ht h₀ α₂ _ { s with heap := h₂, toks := tk₂ } _ _ _ _ ok I₂ e4 fun α₅ h₅ tk₅ p₅ I₅ => ?_
        rw [if_neg (by simp)]
        exact wpAny_execs_nil (q α₅ _ h₅ tk₅ (p₂.trans p₅) rfl I₅)
      · rename_i σ₄ e4
        split at e3
        · rename_i σ₅ e5
          refine ht h₀ α₂ _ { s with heap := h₂, toks := tk₂ } _ _ _ _ ok I₂ e4 fun α₅ h₅ tk₅ p₅ I₅ => ?_
          rw [if_pos rfl]
          refine hb h₀ α₅ _ { s with heap := h₅, toks := tk₅ } _ _ _ _ ok I₅ e5 fun α₆ fl h₆ tk₆ p₆ r₆ I₆ => ?_
          cases r₆
          exact ⟨n, Nat.lt_succ_self _, α₆, σ₅, h₆, tk₆, rfl, e3, (p₂.trans p₅).trans p₆, I₆⟩
        · cases e3
end
end Mine

-- M7
namespace Mine

noncomputable def lastTurn (elt : Expr) (code : Code) (env : Env) (acc : Value) : Sem Fin :=
  (do let _ ← call (.builtin "list.append") [acc, ← eval elt env]) >>= fun _ => again code
noncomputable def inTurn (e : Expr) (d : Nat) (iter' : Expr) (code : Code) (env : Env) (acc : Value) : Sem Fin := do
  let x ← eval iter' env
  standAt iter'.pos
  let x ← foldedSetIterable iter' env x
  let _ ← runOwn (.compStart e (d + 1) (← holding [x] (pyIter x)) acc env) env
  again code
noncomputable def aTurn (target iter : Expr) (it : Value) (env : Env) (t : Sem Fin) : Sem Fin :=
  standAt iter.pos >>= fun _ => pyNext it >>= fun r => match r with
      | none => pure (.done .next)
      | some v => letOwnedTupleGo target it v >>= fun _ => assign target env v >>= fun _ => t
theorem compTurn_last {elt : Expr} {gens : List Comprehension} {scope : Scope} {pos : Pos} {d : Nat} {it acc : Value} {env : Env} {target iter : Expr} (h : gens[d]? = some ⟨target, iter, [], 0⟩) (h2 : gens[d + 1]? = none) :
    compTurn (.ListComp elt gens scope pos) d it acc env = aTurn target iter it env (lastTurn elt (.compLoop (.ListComp elt gens scope pos) d it acc env) env acc) := by
  unfold compTurn aTurn
  simp only [h]
  refine congrArg (standAt iter.pos >>= ·) (funext fun _ => ?_)
  refine congrArg (pyNext it >>= ·) (funext fun r => ?_)
  cases r with
  | none => rfl
  | some v =>
    refine congrArg (letOwnedTupleGo target it v >>= ·) (funext fun _ => ?_)
    refine congrArg (assign target env v >>= ·) (funext fun _ => ?_)
    rw [h2]
    rfl
theorem compTurn_in {elt : Expr} {gens : List Comprehension} {scope : Scope} {pos : Pos} {d : Nat} {it acc : Value} {env : Env} {target iter target' iter' : Expr} (h : gens[d]? = some ⟨target, iter, [], 0⟩) (h2 : gens[d + 1]? = some ⟨target', iter', [], 0⟩) :
    compTurn (.ListComp elt gens scope pos) d it acc env = aTurn target iter it env (inTurn (.ListComp elt gens scope pos) d iter' (.compLoop (.ListComp elt gens scope pos) d it acc env) env acc) := by
  unfold compTurn aTurn
  simp only [h]
  refine congrArg (standAt iter.pos >>= ·) (funext fun _ => ?_)
  refine congrArg (pyNext it >>= ·) (funext fun r => ?_)
  cases r with
  | none => rfl
  | some v =>
    refine congrArg (letOwnedTupleGo target it v >>= ·) (funext fun _ => ?_)
    refine congrArg (assign target env v >>= ·) (funext fun _ => ?_)
    rw [h2]
    rfl

section
variable {c : Cx} {A : Around} {sl : List Slot} {en : Env}

/-- a turn's tail -/
noncomputable def EmJ (c : Cx) (A : Around) (sl : List Slot) (t : Code → Value → Sem Fin) (g : Nat → St → Option (Fl × St)) : Prop :=
  ∀ (h₀ : Heap) (α : List Addr) (σ : St) (s : Shared) (j : Nat) (D : Addr) (code : Code) (σ' : St) (Q : Fin → Shared → Prop) (E : Value → Shared → Prop),
    c.ok h₀ → Inv c.z h₀ sl α σ s.heap → α[j]? = some D → g j σ = some (.next, σ') →
    (∀ α' h' tk, α <+: α' → Inv c.z h₀ sl α' σ' h' → Q (.again code) { s with heap := h', toks := tk }) → wpAny (model c.prog c.w) A (t code (.ref D)) Q E s

noncomputable def LoopJ (c : Cx) (A : Around) (sl : List Slot) (code : Value → Value → Code) (F : Nat → Src → St → Option St) : Prop :=
  ∀ (h₀ : Heap) (α : List Addr) (σ : St) (s : Shared) (j : Nat) (D I : Addr) (src : Src) (σ' : St) (R : Result → Shared → Prop),
    c.ok h₀ → Inv c.z h₀ sl α σ s.heap → α[j]? = some D → SrcAt α s.heap I src → I ∉ α → (∀ t ∈ sl, t.base ≠ I) → h₀.get? I = none → F j src σ = some σ' →
    (∀ α' h' tk, α <+: α' → Inv c.z h₀ sl α' σ' h' → R (.ok .next) { s with heap := h', toks := tk }) → codeAny (model c.prog c.w) A (code (.ref I) (.ref D)) R s

theorem srcAt_obj {α : List Addr} {h : Heap} {it : Addr} : ∀ {src : Src}, SrcAt α h it src → ∃ o, h.get? it = some o
  | .list _ _, ⟨_, _, o, e, _⟩ => ⟨o, e⟩
  | .range _ _ _, S => ⟨_, S⟩
  | .str _, ⟨_, _, _, _, _, ⟨o, e, _⟩, _⟩ => ⟨o, e⟩

theorem LoopJ.of {elt : Expr} {gens : List Comprehension} {scope : Scope} {pos : Pos} {d : Nat} {x : Str} {px : Pos} {iter : Expr} {i : Nat} {g : Nat → St → Option (Fl × St)} {t : Code → Value → Sem Fin} (fuel : Nat) (hc : A.handled = none) (a : AccS en sl x i)
    (ht : ∀ it acc, compTurn (.ListComp elt gens scope pos) d it acc en = aTurn (.Name x px) iter it en (t (.compLoop (.ListComp elt gens scope pos) d it acc en) acc)) (hg : EmJ c A sl t g) :
    LoopJ c A sl (fun it acc => .compLoop (.ListComp elt gens scope pos) d it acc en) (fun j src σ => forF i (g j) fuel src σ) := by
  intro h₀ α σ s j D it src σ' R ok I eD S o1 o2 o3 e1 q
  refine codeAny_loop rfl (fun n s' => ∃ α₂ src σ₃ h₂ tk₂, s' = { s with heap := h₂, toks := tk₂ } ∧ forF i (g j) n src σ₃ = some σ' ∧ α <+: α₂ ∧ Inv c.z h₀ sl α₂ σ₃ h₂ ∧ SrcAt α₂ h₂ it src ∧ it ∉ α₂) ?_ fuel
    ⟨α, src, σ, s.heap, s.toks, rfl, e1, List.prefix_refl _, I, S, o1⟩
  rintro n s' ⟨α₂, src, σ₃, h₂, tk₂, rfl, e3, p₂, I₂, S₂, o4⟩
  show wpAny _ A ((compTurn (.ListComp elt gens scope pos) d (.ref it) (.ref D) en).onRaise (fun x => do noteFrame x en; theTreesLotGoes x)) _ _ _
  refine wpAny_noted ?_
  rw [ht]
  refine wpAny_bind (wpAny_standAt (wpAny_bind ?_))
  cases n with
  | zero => cases e3
  | succ n =>
    unfold forF at e3
    split at e3
    · cases e3
    · rename_i e4
      cases e3
      exact next_end (s := { s with heap := h₂, toks := tk₂ }) hc I₂ S₂ o4 o2 o3 e4 fun h' tk I' => wpAny_pure (q α₂ h' tk p₂ I')
    · rename_i v src' e4
      split at e3
      · rename_i σ₄ e5
        refine next_item (s := { s with heap := h₂, toks := tk₂ }) hc I₂ S₂ o4 o2 o3 e4 fun y h₃ tk₃ r₃ I₃ S₃ => ?_
        refine wpAny_bind (wpAny_of_eq (by rfl) (wpAny_bind (wpAny_assign_Name ?_)))
        obtain ⟨g₀, k1, I₄, k2⟩ := I₃.rebase
        obtain ⟨oI, eI⟩ := srcAt_obj S₃
        have gI := k2 it oI eI o4 o2
        refine store_acc (s := { s with heap := h₃, toks := tk₃ }) a I₄ r₃ fun h₄ tk₄ I₅ => ?_
        refine hg g₀ α₂ _ { s with heap := h₄, toks := tk₄ } j D _ _ _ _ (c.mono _ _ ok k1) I₅ (pre_get p₂ eD) e5 fun α₆ h₆ tk₆ p₆ I₆ => ?_
        refine ⟨rfl, n, Nat.lt_succ_self _, α₆, src', σ₄, h₆, tk₆, rfl, e3, p₂.trans p₆, I₆.back k1, S₃.at p₆ (fun o e => ?_), ?_⟩
        · rw [eI] at e; cases e
          exact I₆.keep it _ gI
        · intro hm
          have := I₆.fresh it hm
          rw [gI] at this; cases this
      · cases e3

noncomputable def putF (f : St → Option (V × St)) (j : Nat) : St → Option (Fl × St) := fun σ =>
  match f σ with
  | none => none
  | some (v, σ₁) => match σ₁.h[j]? with
    | some (.list l) => if l.length ≤ 100000 then some (.next, { σ₁ with h := σ₁.h.set j (.list (l ++ [v])) }) else none
    | _ => none
theorem EmJ.last {elt : Expr} {f : St → Option (V × St)} (he : EvE c A sl (eval elt en) f) : EmJ c A sl (fun code acc => lastTurn elt code en acc) (putF f) := by
  intro h₀ α σ s j D code σ' Q E ok I eD e q
  unfold putF at e
  show wpAny _ _ (lastTurn elt code en (.ref D)) _ _ _
  unfold lastTurn
  split at e
  · cases e
  · rename_i v σ₁ e1
    split at e
    · rename_i l e2
      split at e
      · rename_i hl
        cases e
        refine wpAny_bind (wpAny_bind (he _ _ _ _ _ _ _ _ ok I e1 fun α₁ x h₁ tk₁ p₁ r₁ I₁ => wpAny_bind ?_))
        refine append_step (s := { s with heap := h₁, toks := tk₁ }) I₁ e2 hl ⟨D, pre_get p₁ eD, rfl⟩ r₁ fun h' tk I' => wpAny_pure (wpAny_pure (q α₁ h' tk p₁ I'))
      · cases e
    · cases e

noncomputable def bare : Src → Bool
  | .str _ => false
  | _ => true
noncomputable def inF (f : St → Option (Src × St)) (F : Nat → Src → St → Option St) (j : Nat) : St → Option (Fl × St) := fun σ =>
  match f σ with
  | none => none
  | some (src, σ₁) => if bare src = true then match F j src σ₁ with
    | none => none
    | some σ₂ => some (.next, σ₂) else none

/-- an iterator gives itself -/
theorem iter_self {α : List Addr} {s : Shared} {I : Addr} {src : Src} {Q : Value → Shared → Prop} {E : Value → Shared → Prop} (S : SrcAt α s.heap I src) (hb : bare src = true) (h : Q (.ref I) s) : wpAny (model c.prog c.w) A (pyIter (.ref I)) Q E s := by
  cases src with
  | list j i => obtain ⟨a, _, it⟩ := S; exact wpAny_pyIter_listiter it h
  | range x n st => exact wpAny_pyIter_rangeiter S h
  | str rest => cases hb

theorem compStart_any {elt : Expr} {gens : List Comprehension} {scope : Scope} {pos : Pos} {target iter : Expr} {d : Nat} {it acc : Value} {R : Result → Shared → Prop} {s : Shared} (hg : gens[d]? = some ⟨target, iter, [], 0⟩)
    (h0 : codeAny (model c.prog c.w) A (.compLoop (.ListComp elt gens scope pos) d it acc en) R s)
    (h : wpAny (model c.prog c.w) A (pyIter it) (fun it' s' => codeAny (model c.prog c.w) A (.compLoop (.ListComp elt gens scope pos) d it' acc en) R s') (notedBy (model c.prog c.w) A en fun x s' => R (.error x) s') s) :
    codeAny (model c.prog c.w) A (.compStart (.ListComp elt gens scope pos) d it acc en) R s := by
  refine codeAny_of_tree ?_
  show wpAny _ A ((compStart (.ListComp elt gens scope pos) d it acc en).onRaise (fun x => do noteFrame x en; standAt theWindowsPlace)) _ _ s
  refine wpAny_notedAt ?_
  have e : compStart (.ListComp elt gens scope pos) d it acc en = (do
      if (← ask).params.followText "comprehension-iter-twice" then return ← again (.compLoop (.ListComp elt gens scope pos) d it acc en)
      rule "comprehension.iter-twice"
      standAt iter.pos
      again (.compLoop (.ListComp elt gens scope pos) d (← pyIter it) acc en)) := by
    unfold compStart
    have e1 : clausesOf (.ListComp elt gens scope pos) = gens := rfl
    rw [e1, hg]
    rfl
  rw [e]
  refine wpAny_bind (wpAny_askSetting (wpAny_ite ?_))
  split
  · first
      | exact wpAny_bind (wpAny_pure (wpAny_pure (And.intro rfl h0)))
      | exact wpAny_pure (And.intro rfl h0)
  · first
      | exact wpAny_bind (wpAny_rule (wpAny_bind (wpAny_standAt (wpAny_bind (wpAny_mono h (fun it' s' h' => wpAny_pure (And.intro rfl h')) fun _ _ x => x)))))
      | (refine wpAny_bind (wpAny_rule ?_); show wpAny _ _ (standAt iter.pos >>= _) _ _ s; exact wpAny_bind (wpAny_standAt (wpAny_bind (wpAny_mono h (fun it' s' h' => wpAny_pure (And.intro rfl h')) fun _ _ x => x))))

theorem start_loop {elt : Expr} {gens : List Comprehension} {scope : Scope} {pos : Pos} {target iter : Expr} {d : Nat} {F : Nat → Src → St → Option St} (hg : gens[d]? = some ⟨target, iter, [], 0⟩)
    (h : LoopJ c A sl (fun it acc => .compLoop (.ListComp elt gens scope pos) d it acc en) F)
    {h₀ : Heap} {α : List Addr} {σ : St} {s : Shared} {j : Nat} {D I : Addr} {src : Src} {σ' : St} {R : Result → Shared → Prop} (ok : c.ok h₀) (J : Inv c.z h₀ sl α σ s.heap) (eD : α[j]? = some D) (S : SrcAt α s.heap I src) (hb : bare src = true)
    (o1 : I ∉ α) (o2 : ∀ t ∈ sl, t.base ≠ I) (o3 : h₀.get? I = none) (e : F j src σ = some σ')
    (q : ∀ α' h' tk, α <+: α' → Inv c.z h₀ sl α' σ' h' → R (.ok .next) { s with heap := h', toks := tk }) : codeAny (model c.prog c.w) A (.compStart (.ListComp elt gens scope pos) d (.ref I) (.ref D) en) R s := by
  have h0 := h _ _ _ s _ _ _ _ _ R ok J eD S o1 o2 o3 e q
  exact compStart_any hg h0 (iter_self S hb h0)

theorem EmJ.in_ {elt : Expr} {gens : List Comprehension} {scope : Scope} {pos : Pos} {target iter : Expr} {d : Nat} {f : St → Option (Src × St)} {F : Nat → Src → St → Option St} (hc : A.handled = none) (hg : gens[d + 1]? = some ⟨target, iter, [], 0⟩)
    (hi : EvI c A sl (eval iter en) f) (h : LoopJ c A sl (fun it acc => .compLoop (.ListComp elt gens scope pos) (d + 1) it acc en) F)
    (hs : ∀ x, foldedSetIterable iter en x = pure x := by intro _; rfl) : EmJ c A sl (fun code acc => inTurn (.ListComp elt gens scope pos) d iter code en acc) (inF f F) := by
  intro h₀ α σ s j D code σ' Q E ok I eD e q
  unfold inF at e
  show wpAny _ _ (inTurn _ d iter code en (.ref D)) _ _ _
  unfold inTurn
  split at e
  · cases e
  · rename_i src σ₁ e1
    split at e
    · rename_i hb
      split at e
      · cases e
      · rename_i σ₂ e2
        cases e
        refine wpAny_bind (wpAny_mono (hi _ _ _ _ _ _ (fun x s₂ => wpAny (model c.prog c.w) A (runOwn (.compStart (.ListComp elt gens scope pos) (d + 1) x (.ref D) en) en) (fun _ s₃ => Q (.again code) s₃) E s₂) _ ok I e1 fun α₁ it h₁ tk₁ p₁ I₁ S o1 o2 o3 => ?_) (fun x s₁ h1 => wpAny_bind (wpAny_standAt (wpAny_bind (wpAny_of_eq (hs x) ?_)))) fun _ _ x => x)
        · refine wpAny_runOwn ?_
          have eA : A.mark none = A := by unfold Around.mark; cases A; rfl
          rw [eA]
          exact start_loop hg h ok I₁ (pre_get p₁ eD) S hb o1 o2 o3 e2 fun α₂ h₂ tk₂ p₂ I₂ => q α₂ h₂ tk₂ (p₁.trans p₂) I₂
        · exact wpAny_bind (wpAny_holding (wpAny_mono h1 (fun v s₂ h2 => wpAny_bind (wpAny_mono h2 (fun _ s₃ h3 => wpAny_pure h3) fun _ _ x => x)) fun _ _ x => x))
    · cases e
end
end Mine

-- M8
namespace Mine
section
variable {c : Cx} {A : Around} {sl : List Slot} {en : Env}

/-- a place that the state doesn't know -/
structure Off (h₀ : Heap) (sl : List Slot) (α : List Addr) (C : Addr) : Prop where
  obj : C ∉ α
  slot : ∀ t ∈ sl, t.base ≠ C
  old : h₀.get? C = none

theorem Inv.more {z : Zt} {h₀ h : Heap} {α : List Addr} {σ : St} (I : Inv z h₀ sl α σ h) (hv : σ.v.length = sl.length) {xs : List Str} (hx : xs.Nodup) {C : Addr} {m : Str → Option Value} (n : h.Ns C m) (o : Off h₀ sl α C) :
    Inv z h₀ (sl ++ xs.map (Slot.ns C)) α { σ with v := σ.v ++ List.replicate xs.length none } h where
  keep := I.keep
  live := fun s hs => by
    rcases List.mem_append.mp hs with hs | hs
    · exact I.live s hs
    · obtain ⟨x, _, rfl⟩ := List.mem_map.mp hs; exact ⟨m, n⟩
  vars := fun i v e => by
    by_cases hi : i < σ.v.length
    · rw [List.getElem?_append_left hi] at e
      obtain ⟨s, x, e1, e2, e3⟩ := I.vars i v e
      exact ⟨s, x, by rw [List.getElem?_append_left (hv ▸ hi)]; exact e1, e2, e3⟩
    · rw [List.getElem?_append_right (by omega), List.getElem?_replicate] at e
      split at e <;> cases e
  objs := I.objs
  len := I.len
  apart := List.pairwise_append.mpr ⟨I.apart, List.pairwise_map.mpr (hx.imp fun h => Or.inr h), fun s hs t ht => by
    obtain ⟨x, _, rfl⟩ := List.mem_map.mp ht
    have := o.slot s hs
    cases s with
    | ns a y => exact Or.inl this
    | cell a => exact this⟩
  nodup := I.nodup
  sep := fun s hs => by
    rcases List.mem_append.mp hs with hs | hs
    · exact I.sep s hs
    · obtain ⟨x, _, rfl⟩ := List.mem_map.mp hs; exact o.obj
  fresh := I.fresh
  freshS := fun s hs => by
    rcases List.mem_append.mp hs with hs | hs
    · exact I.freshS s hs
    · obtain ⟨x, _, rfl⟩ := List.mem_map.mp hs; exact o.old

theorem Inv.fewer {z : Zt} {h₀ h : Heap} {sl' : List Slot} {α : List Addr} {σ : St} (I : Inv z h₀ (sl ++ sl') α σ h) : Inv z h₀ sl α { σ with v := σ.v.take sl.length } h where
  keep := I.keep
  live := fun s hs => I.live s (List.mem_append_left _ hs)
  vars := fun i v e => by
    have hi : i < sl.length := by
      have := (List.getElem?_eq_some_iff.mp e).1
      rw [List.length_take] at this; omega
    rw [List.getElem?_take_of_lt hi] at e
    obtain ⟨s, x, e1, e2, e3⟩ := I.vars i v e
    rw [List.getElem?_append_left hi] at e1
    exact ⟨s, x, e1, e2, e3⟩
  objs := I.objs
  len := I.len
  apart := (List.pairwise_append.mp I.apart).1
  nodup := I.nodup
  sep := fun s hs => I.sep s (List.mem_append_left _ hs)
  fresh := I.fresh
  freshS := fun s hs => I.freshS s (List.mem_append_left _ hs)

theorem AccS.more {x : Str} {i : Nat} (a : AccS en sl x i) (r : List Slot) : AccS en (sl ++ r) x i where
  kind := a.kind
  at_ := by
    have up : ∀ s : Slot, sl[i]? = some s → (sl ++ r)[i]? = some s := fun s e => by
      rw [List.getElem?_append_left (List.getElem?_eq_some_iff.mp e).1]; exact e
    rcases a.at_ with ⟨k, e⟩ | ⟨b, k, hc, e⟩
    · exact .inl ⟨k, up _ e⟩
    · exact .inr ⟨b, k, hc, up _ e⟩

noncomputable def compF (n k : Nat) (f : St → Option (Src × St)) (F : Nat → Src → St → Option St) : St → Option (V × St) := fun σ =>
  match f σ with
  | none => none
  | some (src, σ₁) => if bare src = true ∧ σ₁.v.length = n then match F σ₁.h.length src { v := σ₁.v ++ List.replicate k none, h := σ₁.h ++ [.list []] } with
    | none => none
    | some σ₂ => some (.ref σ₁.h.length, { σ₂ with v := σ₂.v.take n }) else none

/-- a comprehension's facts of form -/
structure CompOk (en : Env) (scope : Scope) (cl : List (Str × Addr)) (xs : List Str) : Prop where
  clos : closureFor scope en = pure cl
  cell : ∀ y ∈ scope.names, y.2 ≠ .cell
  kind : scope.kind = .function
  names : ∀ y ∈ scope.names, y.2 = .local → scope.names.lookup y.1 = some .local
  nodup : xs.Nodup
  ne : ∃ y, y ∈ xs

theorem comp_core {elt iter : Expr} {x : Str} {px : Pos} {gs : List Comprehension} {scope : Scope} {cl : List (Str × Addr)} {xs : List Str} {pos p : Pos} {f : St → Option (Src × St)} {F : Nat → Src → St → Option St} {use : Option (Value → Sem Unit)}
    (k : CompOk en scope cl xs) (hi : EvI c A sl (eval iter en) f)
    (hF : ∀ C, LoopJ c A (sl ++ xs.map (Slot.ns C)) (fun it acc => .compLoop (.ListComp elt (⟨.Name x px, iter, [], 0⟩ :: gs) scope pos) 0 it acc (compEnvC scope cl C en)) F)
    (hs : ∀ x, foldedSetIterable iter en x = pure x)
    {h₀ : Heap} {α : List Addr} {σ : St} {s : Shared} {v : V} {σ' : St} {Q : Value → Shared → Prop} {E : Value → Shared → Prop} (ok : c.ok h₀) (I : Inv c.z h₀ sl α σ s.heap) (e : compF sl.length xs.length f F σ = some (v, σ'))
    (q : ∀ α' C D h' tk σ₂, α <+: α' → Inv c.z h₀ (sl ++ xs.map (Slot.ns C)) α' σ₂ h' → σ' = { σ₂ with v := σ₂.v.take sl.length } → Off h₀ sl α' C → Rep c.z α' v (.ref D) → (∃ m, h'.Ns C m) → C ∉ α' → compPost (model c.prog c.w) A E use Q (.ref D) C (.ok .next) { s with heap := h', toks := tk }) :
    wpAny (model c.prog c.w) A (comprehension (.ListComp elt (⟨.Name x px, iter, [], 0⟩ :: gs) scope pos) scope en p (newList []) false (eval iter en) use) Q E s := by
  unfold compF at e
  split at e
  · cases e
  · rename_i src σ₁ e1
    split at e
    · rename_i hb
      obtain ⟨hb, hv⟩ := hb
      split at e
      · cases e
      · rename_i σ₂ e2
        cases e
        refine wpAny_comprehension_free rfl hs k.clos k.kind k.names (hi _ _ _ _ _ _ _ _ ok I e1 fun α₁ it h₁ tk₁ p₁ I₁ S o1 o2 o3 => ?_)
        refine wpAny_newObj_type (wpAny_newFunctionEnv k.cell (by intro y hy; simp at hy) (fun h₂ n₂ sb₂ => ?_) k.kind)
        dsimp only at n₂ sb₂ ⊢
        obtain ⟨oI, eI⟩ := srcAt_obj S
        have lI := Heap.lt_size eI
        have I₂ := I₁.alloc (h' := h₁.push { cls := .type "list", dict := none, data := .seq ([] : List Value).toArray }) (o := .list []) ⟨[], 0, rfl, .nil⟩ (Heap.get?_push_size _ rfl) (fun b o e => Heap.get?_push_of_some _ e)
        have hC : ∀ b ∈ α₁ ++ [h₁.objs.size], b ≠ (h₁.push { cls := .type "list", dict := none, data := .seq ([] : List Value).toArray }).objs.size := fun b hb => Nat.ne_of_lt (I₂.lt hb)
        have oC : Off h₀ sl (α₁ ++ [h₁.objs.size]) (h₁.push { cls := .type "list", dict := none, data := .seq ([] : List Value).toArray }).objs.size := ⟨fun hm => hC _ hm rfl, (new_off I₂).2.1, (new_off I₂).2.2⟩
        have up : ∀ b o, (h₁.push { cls := .type "list", dict := none, data := .seq ([] : List Value).toArray }).get? b = some o → h₂.get? b = some o := fun b o e => sb₂.extBut b o (fun q => by
          have := Heap.lt_size e; rw [q] at this; exact Nat.lt_irrefl _ this) (Heap.get?_push_of_some _ e)
        have I₃ := (I₂.keeps up).more (by exact hv) k.nodup n₂ oC
        have eD : (α₁ ++ [h₁.objs.size])[σ₁.h.length]? = some h₁.objs.size := by rw [← I₁.len]; simp
        have eF := e2
        refine start_loop (target := .Name x px) (iter := iter) (en := compEnvC scope cl _ en) rfl (hF _) ok I₃ eD (S.at (List.prefix_append _ _) fun o e => up _ _ (Heap.get?_push_of_some _ e)) hb ?_ ?_ o3 e2 fun α₄ h₄ tk₄ p₄ I₄ => ?_
        · intro hm
          rcases List.mem_append.mp hm with hm | hm
          · exact o1 hm
          · rw [List.mem_singleton.mp hm] at lI; exact Nat.lt_irrefl _ lI
        · intro t ht
          rcases List.mem_append.mp ht with ht | ht
          · exact o2 t ht
          · obtain ⟨y, _, rfl⟩ := List.mem_map.mp ht
            intro q
            have q' : (h₁.push { cls := .type "list", dict := none, data := .seq ([] : List Value).toArray }).objs.size = it := q
            rw [← q', Heap.size_push] at lI
            exact Nat.lt_irrefl _ (Nat.lt_of_succ_lt lI)
        · obtain ⟨y, hy⟩ := k.ne
          have hm : Slot.ns (h₁.push { cls := .type "list", dict := none, data := .seq ([] : List Value).toArray }).objs.size y ∈ sl ++ xs.map (Slot.ns (h₁.push { cls := .type "list", dict := none, data := .seq ([] : List Value).toArray }).objs.size) := List.mem_append_right _ (List.mem_map_of_mem hy)
          exact q α₄ _ h₁.objs.size h₄ tk₄ σ₂ ((p₁.trans (List.prefix_append _ _)).trans p₄) I₄ rfl ⟨I₄.sep _ hm, oC.slot, oC.old⟩ ⟨_, pre_get p₄ eD, rfl⟩ (I₄.live _ hm) (I₄.sep _ hm)
    · cases e

theorem Inv.but {z : Zt} {h₀ h h' : Heap} {α : List Addr} {σ : St} {C : Addr} (I : Inv z h₀ sl α σ h) (o : Off h₀ sl α C) (sb : Heap.SameBut C h h') : Inv z h₀ sl α σ h' where
  keep := fun b o' e => sb.extBut b o' (fun q => by rw [q, o.old] at e; cases e) (I.keep b o' e)
  live := fun s hs => (I.live s hs).at fun o' e => sb.extBut _ o' (o.slot s hs) e
  vars := fun i v e => let ⟨s, x, e1, e2, e3⟩ := I.vars i v e; ⟨s, x, e1, e2.at fun o' e => sb.extBut _ o' (o.slot s (List.mem_of_getElem? e1)) e, e3⟩
  objs := fun i o' e => let ⟨a, ob, e1, e2, e3⟩ := I.objs i o' e; ⟨a, ob, e1, sb.extBut _ _ (fun q => o.obj (q ▸ List.mem_of_getElem? e1)) e2, e3⟩
  len := I.len
  apart := I.apart
  nodup := I.nodup
  sep := I.sep
  fresh := I.fresh
  freshS := I.freshS

theorem EvE.comp {elt iter : Expr} {x : Str} {px : Pos} {gs : List Comprehension} {scope : Scope} {cl : List (Str × Addr)} {xs : List Str} {pos : Pos} {f : St → Option (Src × St)} {F : Nat → Src → St → Option St}
    (n : Nat) (hn : sl.length = n) (k : CompOk en scope cl xs) (hi : EvI c A sl (eval iter en) f)
    (hF : ∀ C, LoopJ c A (sl ++ xs.map (Slot.ns C)) (fun it acc => .compLoop (.ListComp elt (⟨.Name x px, iter, [], 0⟩ :: gs) scope pos) 0 it acc (compEnvC scope cl C en)) F)
    (hs : ∀ x, foldedSetIterable iter en x = pure x := by intro _; rfl) :
    EvE c A sl (eval (.ListComp elt (⟨.Name x px, iter, [], 0⟩ :: gs) scope pos) en) (compF n xs.length f F) := by
  subst hn
  intro h₀ α σ s v σ' Q E ok I e q
  rw [eval_ListComp]
  refine comp_core (use := none) k hi hF hs ok I e fun α' C D h' tk σ₂ p I' eσ o r n _ => ?_
  obtain ⟨m, n⟩ := n
  subst eσ
  exact ⟨m, n, fun h'' sb => q α' _ h'' tk p r (I'.fewer.but o sb)⟩

/-- a comprehension that is bound to a local name on its line -/
theorem exS_comp {elt iter : Expr} {x y : Str} {px py : Pos} {gs : List Comprehension} {scope : Scope} {cl : List (Str × Addr)} {xs : List Str} {pos spos : Pos} {i : Nat} {f : St → Option (Src × St)} {F : Nat → Src → St → Option St}
    (n : Nat) (hn : sl.length = n) (k : CompOk en scope cl xs) (a : AccS en sl y i) (hi : EvI c A sl (eval iter en) f)
    (hF : ∀ C, LoopJ c A (sl ++ xs.map (Slot.ns C)) (fun it acc => .compLoop (.ListComp elt (⟨.Name x px, iter, [], 0⟩ :: gs) scope pos) 0 it acc (compEnvC scope cl C en)) F)
    (hsw : swapsWith (.ListComp elt (⟨.Name x px, iter, [], 0⟩ :: gs) scope pos) (some (.Name y py)) spos.line en = pure true)
    (hs : ∀ x, foldedSetIterable iter en x = pure x := by intro _; rfl) :
    ExS c A sl (exec (.Assign [.Name y py] (.ListComp elt (⟨.Name x px, iter, [], 0⟩ :: gs) scope pos) spos) en) (setF i (compF n xs.length f F)) := by
  subst hn
  intro h₀ α σ s v σ' Q E ok I e q
  unfold setF at e
  split at e
  · cases e
  · rename_i w σ₁ e1
    cases e
    rw [exec_Assign_Name_used _ _ _ _ hsw]
    refine wpAny_bind (wpAny_standAt (wpAny_bind ?_))
    show wpAny _ A (do let _ ← comprehension (.ListComp elt (⟨.Name x px, iter, [], 0⟩ :: gs) scope pos) scope en _ (newList []) false (eval iter en) (some (assign (.Name y py) en))) _ _ s
    refine wpAny_bind (wpAny_mono (comp_core (use := some (assign (.Name y py) en)) (Q := fun _ s' => Q .next s') k hi hF hs ok I e1 fun α' C D h' tk σ₂ p I' eσ o r n hC => ?_) (fun _ s' hq => wpAny_pure (wpAny_pure hq)) fun _ _ e => e)
    show wpAny _ A (assign (.Name y py) en (.ref D)) _ _ _
    refine wpAny_assign_Name (store_acc (s := { s with heap := h', toks := tk }) (a.more _) I' r fun h₂ tk₂ I₂ => ?_)
    obtain ⟨z, hz⟩ := k.ne
    have hm : Slot.ns C z ∈ sl ++ xs.map (Slot.ns C) := List.mem_append_right _ (List.mem_map_of_mem hz)
    obtain ⟨m, n₂⟩ := I₂.live _ hm
    refine ⟨m, n₂, fun h₃ sb => q α' _ h₃ tk₂ p rfl ?_⟩
    have := I₂.fewer.but o sb
    rw [List.take_set] at this
    subst eσ
    exact this
end
end Mine

-- M9
namespace Mine

noncomputable def flatV : V → Bool
  | .ref _ => false
  | _ => true
noncomputable def flatO : O → Bool
  | .list l => l.all flatV
  | .tup l => l.all flatV
theorem flat_rep {z : Zt} {α β : List Addr} : ∀ {v : V} {w : Value}, flatV v = true → Rep z α v w → Rep z β v w
  | .int _ _, _, _, r => r
  | .str _, _, _, r => r
  | .bool _, _, _, r => r
  | .nil, _, _, r => r
  | .bytes _, _, _, r => r
  | .opq _, _, _, r => r
  | .ref _, _, h, _ => by cases h
theorem flat_all {z : Zt} {α β : List Addr} : ∀ {l : List V} {m : List Value}, l.all flatV = true → All2 (Rep z α) l m → All2 (Rep z β) l m
  | _, _, _, .nil => .nil
  | _, _, h, .cons r rs => by
    rw [List.all_cons, Bool.and_eq_true] at h
    exact .cons (flat_rep h.1 r) (flat_all h.2 rs)
theorem flat_obj {z : Zt} {α β : List Addr} : ∀ {o : O} {ob : Obj}, flatO o = true → ObjIs z α o ob → ObjIs z β o ob
  | .list _, _, h, ⟨vs, n, e, r⟩ => ⟨vs, n, e, flat_all h r⟩
  | .tup _, _, h, ⟨vs, n, e, r⟩ => ⟨vs, n, e, flat_all h r⟩

noncomputable def refsOf : List V → List Nat
  | [] => []
  | .ref i :: r => i :: refsOf r
  | _ :: r => refsOf r
noncomputable def renum : Nat → List V → List V
  | _, [] => []
  | n, .ref _ :: r => .ref n :: renum (n + 1) r
  | n, v :: r => v :: renum n r
noncomputable def pickO (h : List O) : List Nat → Option (List O)
  | [] => some []
  | k :: r => match h[k]? with
    | none => none
    | some o => match pickO h r with
      | none => none
      | some l => some (o :: l)
noncomputable def back (ks : List Nat) (n : Nat) : V → V
  | .ref i => if i < ks.length then .ref (ks.getD i 0) else .ref (n + (i - ks.length))
  | v => v
noncomputable def backO (ks : List Nat) (n : Nat) : O → O
  | .list l => .list (l.map (back ks n))
  | .tup l => .tup (l.map (back ks n))

theorem pickO_len {h : List O} : ∀ {ks : List Nat} {hc : List O}, pickO h ks = some hc → hc.length = ks.length
  | [], _, e => by cases e; rfl
  | k :: r, hc, e => by
    unfold pickO at e
    split at e
    · cases e
    · split at e
      · cases e
      · rename_i l e2
        cases e
        simp [pickO_len e2]
theorem pickO_get {h : List O} : ∀ {ks : List Nat} {hc : List O}, pickO h ks = some hc → ∀ {i : Nat} {o : O}, hc[i]? = some o → ∃ k, ks[i]? = some k ∧ h[k]? = some o
  | [], _, e, _, _, e' => by cases e; simp at e'
  | k :: r, hc, e, i, o, e' => by
    unfold pickO at e
    split at e
    · cases e
    · rename_i o' e1
      split at e
      · cases e
      · rename_i l e2
        cases e
        cases i with
        | zero => simp at e'; subst e'; exact ⟨k, rfl, e1⟩
        | succ i =>
          simp at e'
          obtain ⟨k', e3, e4⟩ := pickO_get e2 e'
          exact ⟨k', by simpa using e3, e4⟩

/-- the addresses of the picks -/
noncomputable def pickA (α : List Addr) (ks : List Nat) : List Addr := ks.map fun k => α.getD k 0

theorem pickA_get {α : List Addr} {ks : List Nat} {i k : Nat} {a : Addr} (e : ks[i]? = some k) (e' : α[k]? = some a) : (pickA α ks)[i]? = some a := by
  unfold pickA
  rw [List.getElem?_map, e]
  simp [List.getD, e']

theorem pickA_mem {α : List Addr} {ks : List Nat} {a : Addr} (hl : ∀ k ∈ ks, k < α.length) (h : a ∈ pickA α ks) : ∃ i k : Nat, ks[i]? = some k ∧ α[k]? = some a := by
  obtain ⟨k, hk, rfl⟩ := List.mem_map.mp h
  obtain ⟨i, hi, e⟩ := List.getElem_of_mem hk
  refine ⟨i, k, by rw [List.getElem?_eq_getElem hi, e], ?_⟩
  have := hl k hk
  simp [List.getD, this]

theorem rep_back {z : Zt} {α α₂ : List Addr} {ks : List Nat} (hl : ∀ k ∈ ks, k < α.length) (hp : pickA α ks <+: α₂) {v : V} {w : Value} (r : Rep z α₂ v w) : Rep z (α ++ α₂.drop ks.length) (back ks α.length v) w := by
  cases v with
  | ref i =>
    obtain ⟨a, e, rfl⟩ := r
    have hlen : (pickA α ks).length = ks.length := by simp [pickA]
    show Rep z _ (if i < ks.length then V.ref (ks.getD i 0) else V.ref (α.length + (i - ks.length))) _
    by_cases hi : i < ks.length
    · rw [if_pos hi]
      refine ⟨a, ?_, rfl⟩
      obtain ⟨t, rfl⟩ := hp
      rw [List.getElem?_append_left (by rw [hlen]; exact hi)] at e
      have hk : ks[i] < α.length := hl _ (List.getElem_mem hi)
      rw [pickA_get (k := ks[i]) (a := α[ks[i]]) (List.getElem?_eq_getElem hi) (List.getElem?_eq_getElem hk)] at e
      cases e
      have : ks.getD i 0 = ks[i] := by simp [List.getD, hi]
      rw [this, List.getElem?_append_left hk, List.getElem?_eq_getElem hk]
    · rw [if_neg hi]
      refine ⟨a, ?_, rfl⟩
      rw [List.getElem?_append_right (by omega), List.getElem?_drop]
      rw [← e]; congr 1; omega
  | int => exact r
  | str => exact r
  | bool => exact r
  | nil => exact r
  | bytes => exact r
  | opq => exact r
theorem all_back {z : Zt} {α α₂ : List Addr} {ks : List Nat} (hl : ∀ k ∈ ks, k < α.length) (hp : pickA α ks <+: α₂) : ∀ {l : List V} {m : List Value}, All2 (Rep z α₂) l m → All2 (Rep z (α ++ α₂.drop ks.length)) (l.map (back ks α.length)) m
  | _, _, .nil => .nil
  | _, _, .cons r rs => .cons (rep_back hl hp r) (all_back hl hp rs)
theorem obj_back {z : Zt} {α α₂ : List Addr} {ks : List Nat} (hl : ∀ k ∈ ks, k < α.length) (hp : pickA α ks <+: α₂) {o : O} {ob : Obj} (r : ObjIs z α₂ o ob) : ObjIs z (α ++ α₂.drop ks.length) (backO ks α.length o) ob := by
  cases o with
  | list l => obtain ⟨vs, n, e, r⟩ := r; exact ⟨vs, n, e, all_back hl hp r⟩
  | tup l => obtain ⟨vs, n, e, r⟩ := r; exact ⟨vs, n, e, all_back hl hp r⟩

theorem Inv.join {z : Zt} {h₀ h h₂ : Heap} {sl sl' : List Slot} {α α₂ : List Addr} {σ σ₂ : St} {ks : List Nat} {hc : List O} (I : Inv z h₀ sl α σ h) (I₂ : Inv z (hideAll h (pickA α ks)) sl' α₂ σ₂ h₂)
    (hp : pickA α ks <+: α₂) (e : pickO σ.h ks = some hc) (hf : hc.all flatO = true) (hs : σ₂.h.take ks.length = hc) :
    Inv z h₀ sl (α ++ α₂.drop ks.length) { σ with h := σ.h ++ (σ₂.h.drop ks.length).map (backO ks σ.h.length) } h₂ := by
  have hlen := pickO_len e
  have hl : ∀ k ∈ ks, k < α.length := fun k hk => by
    obtain ⟨i, hi, rfl⟩ := List.getElem_of_mem hk
    have hi' : i < hc.length := by omega
    obtain ⟨k', e1, e2⟩ := pickO_get e (List.getElem?_eq_getElem hi')
    rw [List.getElem?_eq_getElem hi] at e1; cases e1
    rw [I.len]; exact (List.getElem?_eq_some_iff.mp e2).1
  have plen : (pickA α ks).length = ks.length := by simp [pickA]
  have sub : ∀ a ∈ pickA α ks, a ∈ α := fun a ha => by obtain ⟨i, k, _, e2⟩ := pickA_mem hl ha; exact List.mem_of_getElem? e2
  -- what is not picked stays
  have stays : ∀ b o, b ∉ pickA α ks → h.get? b = some o → h₂.get? b = some o := fun b o hb eb => I₂.keep b o (hideAll_get _ eb hb)
  have newfresh : ∀ a ∈ α₂.drop ks.length, (hideAll h (pickA α ks)).get? a = none := fun a ha => I₂.fresh a (List.mem_of_mem_drop ha)
  have newpick : ∀ a ∈ α₂.drop ks.length, a ∉ pickA α ks := fun a ha hm => by
    obtain ⟨t, rfl⟩ := hp
    rw [← plen, List.drop_left] at ha
    exact (List.nodup_append.mp I₂.nodup).2.2 a hm a ha rfl
  have newh : ∀ a ∈ α₂.drop ks.length, h.get? a = none := fun a ha => by
    cases q : h.get? a with
    | none => rfl
    | some o => have := newfresh a ha; rw [hideAll_get _ q (newpick a ha)] at this; cases this
  refine ⟨fun b o eb => stays b o (fun hm => ?_) (I.keep b o eb), fun s hs' => (I.live s hs').at fun o eb => stays _ o (fun hm => I.sep s hs' (sub _ hm)) eb, fun i v ev => ?_, fun i o eo => ?_, ?_, I.apart, ?_, fun s hs' hm => ?_, fun a ha => ?_, I.freshS⟩
  · have := I.fresh b (sub b hm); rw [this] at eb; cases eb
  · obtain ⟨s, x, e1, e2, e3⟩ := I.vars i v ev
    have hs' := List.mem_of_getElem? e1
    exact ⟨s, x, e1, e2.at fun o eb => stays _ o (fun hm => I.sep s hs' (sub _ hm)) eb, e3.mono (List.prefix_append _ _)⟩
  · dsimp only at eo
    by_cases hi : i < σ.h.length
    · rw [List.getElem?_append_left hi] at eo
      obtain ⟨a, ob, e1, e2, e3⟩ := I.objs i o eo
      by_cases hm : a ∈ pickA α ks
      · obtain ⟨j, k, f1, f2⟩ := pickA_mem hl hm
        have hk : k = i := Inv.nodup_get I.nodup f2 e1
        subst hk
        have hj : j < hc.length := by rw [hlen]; exact (List.getElem?_eq_some_iff.mp f1).1
        obtain ⟨k', f3, f4⟩ := pickO_get e (List.getElem?_eq_getElem hj)
        rw [f1] at f3; cases f3
        rw [eo] at f4
        have f5 : σ₂.h[j]? = some o := by
          have := congrArg (·[j]?) hs
          rw [List.getElem?_take_of_lt (by omega), List.getElem?_eq_getElem hj, ← f4] at this
          exact this
        obtain ⟨a', ob', g1, g2, g3⟩ := I₂.objs j o f5
        have : α₂[j]? = some a := pre_get hp (pickA_get f1 f2)
        rw [this] at g1; cases g1
        refine ⟨a, ob', pre_get (List.prefix_append _ _) e1, g2, flat_obj ?_ g3⟩
        have := List.all_eq_true.mp hf hc[j] (List.getElem_mem hj)
        cases f4; exact this
      · exact ⟨a, ob, pre_get (List.prefix_append _ _) e1, stays _ _ hm e2, e3.mono (List.prefix_append _ _)⟩
    · rw [List.getElem?_append_right (by omega), List.getElem?_map, List.getElem?_drop] at eo
      cases q : σ₂.h[ks.length + (i - σ.h.length)]? with
      | none => rw [q] at eo; cases eo
      | some o' =>
        rw [q] at eo
        cases eo
        obtain ⟨a, ob, g1, g2, g3⟩ := I₂.objs _ o' q
        refine ⟨a, ob, ?_, g2, ?_⟩
        · rw [List.getElem?_append_right (by rw [I.len]; omega), List.getElem?_drop, I.len]; exact g1
        · have := obj_back hl hp g3
          rw [I.len] at this; exact this
  · simp only [List.length_append, List.length_drop, List.length_map, I.len, I₂.len]
  · refine List.nodup_append.mpr ⟨I.nodup, I₂.nodup.sublist (List.drop_sublist _ _), fun a ha b hb q => ?_⟩
    subst q
    obtain ⟨i, hi, rfl⟩ := List.getElem_of_mem ha
    obtain ⟨_, ob, _, g2, _⟩ := I.get (i := i) (a := α[i]) (by simp [hi])
    rw [newh _ hb] at g2; cases g2
  · rcases List.mem_append.mp hm with hm | hm
    · exact I.sep s hs' hm
    · have hlt := I.base_lt hs'
      have : ∃ o, h.get? s.base = some o := by
        have := I.live s hs'
        cases s with
        | ns a x => obtain ⟨_, o, _, _, e, _⟩ := this; exact ⟨o, e⟩
        | cell a => obtain ⟨_, o, e, _⟩ := this; exact ⟨o, e⟩
      obtain ⟨o, eo⟩ := this
      rw [newh _ hm] at eo; cases eo
  · rcases List.mem_append.mp ha with ha | ha
    · exact I.fresh a ha
    · cases q : h₀.get? a with
      | none => rfl
      | some o => have := I.keep a o q; rw [newh a ha] at this; cases this
end Mine

-- M10
namespace Mine

noncomputable def slotOf (names : List (Str × NameKind)) (L : Addr) (x : Str) : Slot := match names.lookup x with
  | some .cell => .cell (((cellsFrom (L + 1) names []).lookup x).getD 0)
  | _ => .ns L x

structure FnAt (c : Cx) (a : Addr) (fd : FuncData) : Prop where
  get : ∀ h, c.ok h → ∃ o, h.get? a = some o ∧ o.data = .func fd ∧ h.CodeRec fd.code fd.qualname

structure FnForm (fd : FuncData) (ps xs : List Str) (body : List Stmt) : Prop where
  body : fd.body = .stmts body
  bind : ∀ vals : List Value, vals.length = ps.length → bindArgs fd ⟨vals, []⟩ = pure (ps.zip vals)
  clo : fd.closure = []
  kinds : ∀ x ∈ xs, fd.scope.names.lookup x = some .local ∨ fd.scope.names.lookup x = some .cell
  pre : ps <+: xs
  nodup : xs.Nodup
  cor : fd.scope.isCoroutine = false
  gen : fd.scope.isGenerator = false
  kind : fd.scope.kind = .function

theorem bindL_out {kindOf : Str → Option NameKind} {x : Str} : ∀ {binds : List (Str × Value)} {m : Str → Option Value}, x ∉ binds.map (·.1) → bindL kindOf binds m x = m x
  | [], _, _ => rfl
  | (n, v) :: r, m, h => by
    rw [List.map_cons, List.mem_cons, not_or] at h
    show bindL kindOf r _ x = _
    rw [bindL_out h.2]
    split
    · simp [h.1]
    · rfl
theorem bindC_out {kindOf : Str → Option NameKind} {x : Str} : ∀ {binds : List (Str × Value)} {m : Str → Option Value}, x ∉ binds.map (·.1) → bindC kindOf binds m x = m x
  | [], _, _ => rfl
  | (n, v) :: r, m, h => by
    rw [List.map_cons, List.mem_cons, not_or] at h
    show bindC kindOf r _ x = _
    rw [bindC_out h.2]
    split
    · rfl
    · simp [h.1]
theorem bindL_in {kindOf : Str → Option NameKind} {x : Str} {v : Value} (hk : kindOf x = some .local) : ∀ {binds : List (Str × Value)} {m : Str → Option Value}, (binds.map (·.1)).Nodup → (x, v) ∈ binds → bindL kindOf binds m x = some v
  | (n, w) :: r, m, hn, h => by
    rw [List.map_cons, List.nodup_cons] at hn
    rcases List.mem_cons.mp h with e | h
    · cases e
      show bindL kindOf r _ x = _
      rw [bindL_out hn.1, if_pos hk]; simp
    · show bindL kindOf r _ x = _
      exact bindL_in hk hn.2 h
theorem bindC_in {kindOf : Str → Option NameKind} {x : Str} {v : Value} (hk : kindOf x ≠ some .local) : ∀ {binds : List (Str × Value)} {m : Str → Option Value}, (binds.map (·.1)).Nodup → (x, v) ∈ binds → bindC kindOf binds m x = some v
  | (n, w) :: r, m, hn, h => by
    rw [List.map_cons, List.nodup_cons] at hn
    rcases List.mem_cons.mp h with e | h
    · cases e
      show bindC kindOf r _ x = _
      rw [bindC_out hn.1, if_neg hk]; simp
    · show bindC kindOf r _ x = _
      exact bindC_in hk hn.2 h

theorem renum_all {z : Zt} {α : List Addr} : ∀ {vs : List V} {ws : List Value} (p : List Nat), All2 (Rep z α) vs ws → All2 (Rep z (pickA α (p ++ refsOf vs))) (renum p.length vs) ws
  | _, _, _, .nil => .nil
  | .ref i :: vs, _, p, .cons r rs => by
    show All2 _ (.ref p.length :: renum (p.length + 1) vs) _
    have e : p ++ refsOf (.ref i :: vs) = (p ++ [i]) ++ refsOf vs := by simp [refsOf]
    have h := renum_all (p ++ [i]) rs
    rw [← e, List.length_append, List.length_singleton] at h
    refine .cons ?_ h
    obtain ⟨a, ea, rfl⟩ := r
    exact ⟨a, pickA_get (k := i) (by simp [refsOf]) ea, rfl⟩
  | .int _ _ :: vs, _, p, .cons r rs => .cons r (renum_all p rs)
  | .str _ :: vs, _, p, .cons r rs => .cons r (renum_all p rs)
  | .bool _ :: vs, _, p, .cons r rs => .cons r (renum_all p rs)
  | .nil :: vs, _, p, .cons r rs => .cons r (renum_all p rs)
  | .bytes _ :: vs, _, p, .cons r rs => .cons r (renum_all p rs)
  | .opq _ :: vs, _, p, .cons r rs => .cons r (renum_all p rs)

noncomputable def callF (nv : Nat) (f : St → Option (Fl × St)) (vs : List V) (σ : St) : Option (V × St) :=
  match pickO σ.h (refsOf vs) with
  | none => none
  | some hc => if hc.all flatO = true ∧ (refsOf vs).Nodup then
    match f { v := (renum 0 vs).map some ++ List.replicate (nv - vs.length) none, h := hc } with
    | some (.ret v, σ₂) => if σ₂.h.take (refsOf vs).length = hc then some (back (refsOf vs) σ.h.length v, { σ with h := σ.h ++ (σ₂.h.drop (refsOf vs).length).map (backO (refsOf vs) σ.h.length) }) else none
    | _ => none
    else none

section
variable {c : Cx} {A : Around} {sl : List Slot} {en : Env}

theorem slot_ns {names : List (Str × NameKind)} {L : Addr} {x : Str} (h : names.lookup x = some .local) : slotOf names L x = .ns L x := by
  unfold slotOf; rw [h]
theorem slot_cell {names : List (Str × NameKind)} {L : Addr} {x : Str} (h : names.lookup x = some .cell) : ∃ d, slotOf names L x = .cell d ∧ (cellsFrom (L + 1) names []).lookup x = some d := by
  unfold slotOf; rw [h]
  have := cellsFrom_some names (L + 1) [] (.inl h)
  obtain ⟨d, e⟩ := Option.isSome_iff_exists.mp this
  exact ⟨d, by rw [e]; rfl, e⟩

theorem call_fn {a : Addr} {fd : FuncData} {ps xs : List Str} {body : List Stmt} {f : St → Option (Fl × St)} (fa : FnAt c a fd) (ff : FnForm fd ps xs body) (room : A.depth < recursionLimit)
    (hb : ∀ L, ExS c (A.deeper (callEnvC fd L a)) (xs.map (slotOf fd.scope.names L)) (execs body (callEnvC fd L a)) f)
    {h₀ : Heap} {α : List Addr} {σ : St} {s : Shared} {vs : List V} {ws : List Value} {v : V} {σ' : St} {Q : Value → Shared → Prop} {E : Value → Shared → Prop} (ok : c.ok h₀) (I : Inv c.z h₀ sl α σ s.heap)
    (hv : All2 (Rep c.z α) vs ws) (hn : vs.length = ps.length) (e : callF xs.length f vs σ = some (v, σ'))
    (q : ∀ α' x h' tk, α <+: α' → Rep c.z α' v x → Inv c.z h₀ sl α' σ' h' → Q x { s with heap := h', toks := tk }) : wpAny (model c.prog c.w) A (call (.ref a) ws) Q E s := by
  unfold callF at e
  split at e
  · cases e
  · rename_i hc e1
    split at e
    · rename_i hfn
      obtain ⟨hf, hnd⟩ := hfn
      split at e
      · rename_i v₂ σ₂ e2
        split at e
        · rename_i hk
          cases e
          obtain ⟨o, ho, hd, hcd⟩ := fa.get h₀ ok
          have hws : ws.length = ps.length := by rw [← hv.length, hn]
          have hcd' : s.heap.CodeRec fd.code fd.qualname := by
            obtain ⟨cc, oc, vs', t, h1, h2, h3, h4⟩ := hcd
            exact ⟨cc, oc, vs', t, h1, I.keep _ _ h2, h3, h4⟩
          refine wpAny_call (codeAny_call_cells (body := body) (binds := ps.zip ws) room (I.keep _ _ ho) hd ((c.lim _ ok).keeps I.keep) hcd' ff.body (ff.bind ws hws) ff.clo ?_ (fun s₁ X => ?_) ff.cor ff.gen ff.kind)
          · intro x hx
            have hm : x.1 ∈ xs := ff.pre.subset ((List.of_mem_zip hx).1)
            rcases ff.kinds _ hm with h | h
            · exact .inl h
            · exact .inr ⟨h, cellsFrom_some _ _ _ (.inl h)⟩
          · obtain ⟨h₁, tk₁, rfl, hk₁⟩ := X.done
            have hL : ∀ b o, s.heap.get? b = some o → b < s.heap.objs.size := fun b o e => Heap.lt_size e
            have big : ∀ b, s.heap.objs.size ≤ b → s.heap.get? b = none := fun b hb => by
              cases q : s.heap.get? b with
              | none => rfl
              | some o => exact absurd (hL b o q) (Nat.not_lt.mpr hb)
            have hlk : ∀ k ∈ refsOf vs, k < α.length := fun k hk => by
              obtain ⟨i, hi, rfl⟩ := List.getElem_of_mem hk
              have hi' : i < hc.length := by rw [pickO_len e1]; exact hi
              obtain ⟨k', e3, e4⟩ := pickO_get e1 (List.getElem?_eq_getElem hi')
              rw [List.getElem?_eq_getElem hi] at e3; cases e3
              rw [I.len]; exact (List.getElem?_eq_some_iff.mp e4).1
            have sub : ∀ b ∈ pickA α (refsOf vs), b ∈ α := fun b hb => by obtain ⟨i, k, _, e2⟩ := pickA_mem hlk hb; exact List.mem_of_getElem? e2
            have kind : ∀ x, (callEnvC fd s.heap.objs.size a).kindOf x = fd.scope.names.lookup x := fun x => rfl
            have above : ∀ x ∈ xs, s.heap.objs.size ≤ (slotOf fd.scope.names s.heap.objs.size x).base := fun x hx => by
              rcases ff.kinds x hx with h | h
              · rw [slot_ns h]; exact Nat.le_refl _
              · obtain ⟨d, e3, e4⟩ := slot_cell (L := s.heap.objs.size) h
                rw [e3]; exact Nat.le_of_lt (X.above x d (mem_of_lookup e4))
            have nd : ((ps.zip ws).map (·.1)).Nodup := by
              rw [show (ps.zip ws).map (·.1) = ps from by rw [List.map_fst_zip (by omega)]]
              exact ff.nodup.sublist ff.pre.sublist
            have I₁ : Inv c.z (hideAll s.heap (pickA α (refsOf vs))) (xs.map (slotOf fd.scope.names s.heap.objs.size)) (pickA α (refsOf vs)) { v := (renum 0 vs).map some ++ List.replicate (xs.length - vs.length) none, h := hc } h₁ := {
              keep := fun b o e => hk₁ b o (of_hideAll _ e)
              live := fun t ht => by
                obtain ⟨x, hx, rfl⟩ := List.mem_map.mp ht
                rcases ff.kinds x hx with h | h
                · rw [slot_ns h]; exact ⟨_, X.toInCall.ns⟩
                · obtain ⟨d, e3, e4⟩ := slot_cell (L := s.heap.objs.size) h
                  rw [e3]; exact ⟨_, X.cell x d e4⟩
              vars := fun i w ew => by
                have hi : i < vs.length := by
                  by_cases hi : i < vs.length
                  · exact hi
                  · rw [List.getElem?_append_right (by simpa [← (renum_all [] hv).length, hv.length] using hi), List.getElem?_replicate] at ew
                    split at ew <;> cases ew
                have hvl : vs.length = ws.length := hv.length
                have ra := renum_all [] hv
                have rlen : (renum 0 vs).length = vs.length := by have := ra.length; rw [← hvl] at this; exact this
                rw [List.getElem?_append_left (by rw [List.length_map, rlen]; exact hi), List.getElem?_map] at ew
                cases er : (renum 0 vs)[i]? with
                | none => rw [er] at ew; cases ew
                | some w' =>
                rw [er] at ew; cases ew
                obtain ⟨y, ey, ry⟩ := ra.get er
                have hip : i < ps.length := by omega
                obtain ⟨t, hxs⟩ := ff.pre
                have ex : xs[i]? = some ps[i] := by rw [← hxs, List.getElem?_append_left hip, List.getElem?_eq_getElem hip]
                have hm : (ps[i], y) ∈ ps.zip ws := by
                  refine List.mem_of_getElem? (i := i) ?_
                  rw [List.getElem?_zip_eq_some]
                  exact ⟨List.getElem?_eq_getElem hip, ey⟩
                refine ⟨slotOf fd.scope.names s.heap.objs.size ps[i], y, by rw [List.getElem?_map, ex]; rfl, ?_, ry⟩
                rcases ff.kinds _ (List.mem_of_getElem? ex) with h | h
                · rw [slot_ns h]
                  exact ⟨_, X.toInCall.ns, bindL_in ((kind _).trans h) nd hm⟩
                · obtain ⟨d, e3, e4⟩ := slot_cell (L := s.heap.objs.size) h
                  rw [e3]
                  have := X.cell _ d e4
                  rw [bindC_in (by rw [kind, h]; exact fun q => by cases q) nd hm] at this
                  exact this
              objs := fun i o eo => by
                obtain ⟨k, e3, e4⟩ := pickO_get e1 eo
                obtain ⟨b, ob, g1, g2, g3⟩ := I.objs k o e4
                exact ⟨b, ob, pickA_get e3 g1, hk₁ _ _ g2, flat_obj (List.all_eq_true.mp hf o (List.mem_of_getElem? eo)) g3⟩
              len := by simp [pickA, pickO_len e1]
              apart := by
                refine List.pairwise_map.mpr (ff.nodup.imp_of_mem ?_)
                intro x y hx hy hxy
                rcases ff.kinds x hx with h | h <;> rcases ff.kinds y hy with h' | h'
                · rw [slot_ns h, slot_ns h']; exact Or.inr hxy
                · obtain ⟨d, e3, e4⟩ := slot_cell (L := s.heap.objs.size) h'
                  rw [slot_ns h, e3]; exact Nat.ne_of_lt (X.above y d (mem_of_lookup e4))
                · obtain ⟨d, e3, e4⟩ := slot_cell (L := s.heap.objs.size) h
                  rw [slot_ns h', e3]; exact Nat.ne_of_gt (X.above x d (mem_of_lookup e4))
                · obtain ⟨d, e3, e4⟩ := slot_cell (L := s.heap.objs.size) h
                  obtain ⟨d', e3', e4'⟩ := slot_cell (L := s.heap.objs.size) h'
                  rw [e3, e3']
                  intro q
                  have q' : d = d' := q
                  subst q'
                  exact hxy (name_of_addr X.apart (mem_of_lookup e4) (mem_of_lookup e4'))
              nodup := by
                refine List.pairwise_map.mpr (hnd.imp_of_mem ?_)
                intro k k' hk hk' hne q
                have e5 := hlk k hk
                have e6 := hlk k' hk'
                refine hne (Inv.nodup_get I.nodup (a := α[k]) (List.getElem?_eq_getElem e5) ?_)
                rw [List.getElem?_eq_getElem e6]
                simp [List.getD, e5, e6] at q
                rw [q]
              sep := fun t ht hm => by
                obtain ⟨x, hx, rfl⟩ := List.mem_map.mp ht
                exact Nat.lt_irrefl _ (Nat.lt_of_lt_of_le (I.lt (sub _ hm)) (above x hx))
              fresh := fun b hb => hideAll_none _ hb
              freshS := fun t ht => by
                obtain ⟨x, hx, rfl⟩ := List.mem_map.mp ht
                cases q : (hideAll s.heap (pickA α (refsOf vs))).get? (slotOf fd.scope.names s.heap.objs.size x).base with
                | none => rfl
                | some o => have := of_hideAll _ q; rw [big _ (above x hx)] at this; cases this }
            have okg : c.ok (hideAll s.heap (pickA α (refsOf vs))) := c.mono _ _ ok fun b o e => hideAll_get _ (I.keep b o e) fun hm => by
              have := I.fresh b (sub b hm); rw [this] at e; cases e
            refine hb s.heap.objs.size _ _ _ { s with heap := h₁, toks := tk₁ } _ _ _ _ okg I₁ e2 fun α₂ x h₂ tk₂ p₂ r₂ I₂ => ?_
            obtain ⟨y, rfl, ry⟩ := r₂
            have J := I.join I₂ p₂ e1 hf hk
            have rb := rep_back hlk p₂ ry
            rw [I.len] at rb
            exact q _ y h₂ tk₂ (List.prefix_append _ _) rb J
        · cases e
      · cases e
    · cases e
end
end Mine

-- M11
namespace Mine
theorem All2.uncons {α β : Type} {R : α → β → Prop} {a : α} {l : List α} : ∀ {m : List β}, All2 R (a :: l) m → ∃ b r, m = b :: r ∧ R a b ∧ All2 R l r
  | _, .cons h r => ⟨_, _, rfl, h, r⟩
theorem All2.unnil {α β : Type} {R : α → β → Prop} : ∀ {m : List β}, All2 R [] m → m = []
  | _, .nil => rfl
section
variable {c : Cx} {A : Around} {sl : List Slot} {en : Env}

noncomputable def callsF (nv n : Nat) (f : St → Option (Fl × St)) (g : St → Option (List V × St)) : St → Option (V × St) := fun σ =>
  match g σ with
  | none => none
  | some (vs, σ₁) => if vs.length = n then callF nv f vs σ₁ else none

theorem EvE.callN {x : Str} {p pos : Pos} {e : Expr} {r : List Expr} {a : Addr} {fd : FuncData} {ps xs : List Str} {body : List Stmt} {f : St → Option (Fl × St)} {g : St → Option (List V × St)}
    (hf : Says c A (eval (.Name x p) en) (.ref a)) (fa : FnAt c a fd) (ff : FnForm fd ps xs body) (room : A.depth < recursionLimit)
    (hb : ∀ L, ExS c (A.deeper (callEnvC fd L a)) (xs.map (slotOf fd.scope.names L)) (execs body (callEnvC fd L a)) f)
    (hl : EvL c A sl (spliced (backTo pos (starEach (e :: r) en))) g) (hs : starEach (e :: r) en = (false, eval e en) :: starEach r en := by rfl) :
    EvE c A sl (eval (.Call (.Name x p) (e :: r) [] pos) en) (callsF xs.length ps.length f g) := by
  intro h₀ α σ s v σ' Q E ok I e' q
  unfold callsF at e'
  split at e'
  · cases e'
  · rename_i vs σ₁ e1
    split at e'
    · rename_i hn
      rw [arm_eval_Call_Name']
      refine wpAny_bind (hf _ _ _ _ ok I.keep ?_)
      obtain ⟨o, ho, hd, _⟩ := fa.get h₀ ok
      refine PyProof.Rows.callWith_def (o := o) (fd := fd) hd (hl _ _ _ _ _ _ _ _ ok I e1 fun α₁ ws h₁ tk₁ p₁ r₁ I₁ => ?_) hs
      exact ⟨I₁.keep _ _ ho, call_fn (s := { s with heap := h₁, toks := tk₁ }) fa ff room hb ok I₁ r₁ hn e' fun α₂ y h₂ tk₂ p₂ r₂ I₂ => q α₂ y h₂ tk₂ (p₁.trans p₂) r₂ I₂⟩
    · cases e'
theorem EvE.call0 {x : Str} {p pos : Pos} {a : Addr} {fd : FuncData} {xs : List Str} {body : List Stmt} {f : St → Option (Fl × St)}
    (hf : Says c A (eval (.Name x p) en) (.ref a)) (fa : FnAt c a fd) (ff : FnForm fd [] xs body) (room : A.depth < recursionLimit)
    (hb : ∀ L, ExS c (A.deeper (callEnvC fd L a)) (xs.map (slotOf fd.scope.names L)) (execs body (callEnvC fd L a)) f) :
    EvE c A sl (eval (.Call (.Name x p) [] [] pos) en) (callF xs.length f []) := by
  intro h₀ α σ s v σ' Q E ok I e' q
  rw [arm_eval_Call_Name']
  refine wpAny_bind (hf _ _ _ _ ok I.keep ?_)
  obtain ⟨o, ho, hd, _⟩ := fa.get h₀ ok
  show wpAny _ A (callWith pos (.ref a) [] [] []) Q E s
  refine Calls.callWith_function (o := o) (fd := fd) (PySem.evalArgs_none ⟨⟨I.keep _ _ ho, hd⟩, ?_⟩)
  exact call_fn fa ff room hb ok I .nil rfl e' q

-- range(a, b, s)
noncomputable def range3F (g : St → Option (List V × St)) : St → Option (Src × St) := fun σ =>
  match g σ with
  | some ([.int a b, .int d e, .int k m], σ₁) => if a = 0 ∧ d = 0 ∧ k = 0 ∧ Builtin.Range.small b e m = true ∧ -1000 < m ∧ m < 1000 ∧ m ≠ 0 ∧ -1000000 < b ∧ b < 1000000 ∧ -1000000 < e ∧ e < 1000000 then some (.range b (Builtin.Range.rangeSize b e m).toNat m, σ₁) else none
  | _ => none
theorem EvI.range3 {f : Str} {p pos : Pos} {e₁ : Expr} {r : List Expr} {g : St → Option (List V × St)} (hf : Says c A (eval (.Name f p) en) (.type "range"))
    (hl : EvL c A sl (spliced (backTo pos (starEach (e₁ :: r) en))) g) (hs : starEach (e₁ :: r) en = (false, eval e₁ en) :: starEach r en := by rfl) (hp : (backTo pos (starEach r en)).any (·.1) = false := by rfl) : EvI c A sl (eval (.Call (.Name f p) (e₁ :: r) [] pos) en) (range3F g) := by
  intro h₀ α σ s src σ' Q E ok I e' q
  unfold range3F at e'
  split at e'
  · rename_i a b d e k m σ₁ e1
    split at e'
    · rename_i hb
      obtain ⟨rfl, rfl, rfl, h0, h1, h2, h3, h4, h5, h6, h7⟩ := hb
      cases e'
      rw [arm_eval_Call_Name']
      refine wpAny_bind (hf _ _ _ _ ok I.keep ?_)
      refine callWith_t (hl _ _ _ _ _ _ _ _ ok I e1 fun α₁ ws h₁ tk₁ p₁ r₁ I₁ => ?_) hs hp
      obtain ⟨w1, r2, rfl, ra, r₁⟩ := r₁.uncons
      obtain ⟨w2, r3, rfl, rb, r₁⟩ := r₁.uncons
      obtain ⟨w3, r4, rfl, rc, r₁⟩ := r₁.uncons
      cases r₁.unnil
      obtain ⟨t1, rfl⟩ := ra
      obtain ⟨t2, rfl⟩ := rb
      obtain ⟨t3, rfl⟩ := rc
      have e0 : ∀ d : Int, (0 : Int) * c.z.n + d = d := by intro d; simp
      rw [e0, e0, e0]
      refine call_range_3 h3 ?_ (Or.inl (PyProof.noPylong_small (by omega)))
      have I₂ := I₁.keeps (h' := h₁.push { cls := .type "range", data := .fields #[.int b t1, .int e t2, .int m t3] }) fun _ _ e => Heap.get?_push_of_some _ e
      obtain ⟨o1, o2, o3⟩ := new_off I₂
      refine wpAny_pyIter_range (IsRange.new ..) h0 (q α₁ _ _ _ p₁ (I₂.keeps fun _ _ e => Heap.get?_push_of_some _ e) ?_ o1 o2 o3)
      have e5 := rangeSize_toNat b e m
      rw [e5]
      exact Heap.get?_push_size _ rfl
    · cases e'
  · cases e'

-- sum of a list of ints
noncomputable def intsOf : List V → Option (List Int)
  | [] => some []
  | .int a b :: r => if a = 0 then match intsOf r with
    | some l => some (b :: l)
    | none => none else none
  | _ => none
noncomputable def sumV (h : List O) : V → Option V
  | .ref i => match h[i]? with
    | some (.list l) => match intsOf l with
      | some ns => some (.int 0 ns.sum)
      | none => none
    | _ => none
  | _ => none
theorem intsOf_items {z : Zt} {α : List Addr} : ∀ {l : List V} {ns : List Int} {vs : List Value}, intsOf l = some ns → All2 (Rep z α) l vs → ∃ ps : List (Int × Tok), vs = ps.map (fun p => Value.int p.1 p.2) ∧ ps.map (·.1) = ns
  | [], _, _, e, .nil => by cases e; exact ⟨[], rfl, rfl⟩
  | .int a b :: r, ns, _, e, .cons h rs => by
    unfold intsOf at e
    split at e
    · rename_i ha
      subst ha
      split at e
      · rename_i l e1
        cases e
        obtain ⟨ps, rfl, rfl⟩ := intsOf_items e1 rs
        obtain ⟨t, rfl⟩ := h
        refine ⟨(b, t) :: ps, ?_, rfl⟩
        simp
      · cases e
    · cases e
  | .str _ :: _, _, _, e, _ => by cases e
  | .bool _ :: _, _, _, e, _ => by cases e
  | .nil :: _, _, _, e, _ => by cases e
  | .bytes _ :: _, _, _, e, _ => by cases e
  | .ref _ :: _, _, _, e, _ => by cases e
  | .opq _ :: _, _, _, e, _ => by cases e
theorem OpH.sum (hh : A.handled = none) : OpH c A (fun x => call (.builtin "sum") [x]) sumV := by
  intro h₀ sl α σ s a v x Q E ok I r e q
  unfold sumV at e
  split at e
  · split at e
    · rename_i l e1
      split at e
      · rename_i ns e2
        cases e
        obtain ⟨b, vs, n, rfl, _, e3, e4⟩ := I.list e1 r
        obtain ⟨ps, rfl, rfl⟩ := intsOf_items e2 e4
        refine sum_intListG (xs := ps.toArray) hh (by have := isList_of e3; simpa [intItems] using this) fun h' tk t' hk => ?_
        refine q _ h' tk (rep_int _ ?_) hk
        rw [preSum_eq, List.take_of_length_le (by simp)]
        simp
      · cases e
    · cases e
  · cases e

-- names stored from a tuple or a list
noncomputable def setAll : List Nat → List V → St → St
  | i :: is, v :: vs, σ => setAll is vs { σ with v := σ.v.set i (some v) }
  | _, _, σ => σ
theorem assign_each : ∀ {es : List Expr} {is : List Nat}, All2 (fun e i => ∃ x p, e = .Name x p ∧ AccS en sl x i) es is → ∀ {h₀ : Heap} {α : List Addr} {σ : St} {s : Shared} {vs : List V} {ws : List Value} {Q : Unit → Shared → Prop} {E : Value → Shared → Prop},
    vs.length = is.length → Inv c.z h₀ sl α σ s.heap → All2 (Rep c.z α) vs ws → (∀ h' tk, Inv c.z h₀ sl α (setAll is vs σ) h' → Q () { s with heap := h', toks := tk }) → wpAny (model c.prog c.w) A (assignInOrder ((assignEach es en).map (·.2)) ws) Q E s
  | _, _, .nil, h₀, α, σ, s, vs, ws, Q, E, hn, I, r, q => by
    cases vs with
    | cons => cases hn
    | nil => cases r.unnil; exact wpAny_pure (q s.heap s.toks I)
  | _, _, .cons h hr, h₀, α, σ, s, vs, ws, Q, E, hn, I, r, q => by
    cases vs with
    | nil => cases hn
    | cons v vs =>
      obtain ⟨w, ws, rfl, rw, r⟩ := r.uncons
      obtain ⟨x, p, rfl, a⟩ := h
      refine wpAny_bind (wpAny_holding (wpAny_assign_Name (store_acc a I rw fun h₁ tk₁ I₁ => ?_)))
      exact assign_each (s := { s with heap := h₁, toks := tk₁ }) hr (Nat.succ.inj hn) I₁ r fun h₂ tk₂ I₂ => q h₂ tk₂ I₂

theorem draw_list {it t : Addr} {items : Array Value} (hne : t ≠ it) : ∀ (n i : Nat) (s : Shared) (Q : List Value → Shared → Prop) (E : Value → Shared → Prop), s.heap.IsListIter it t i → s.heap.IsList t items → i + n ≤ items.size →
    (∀ h', h'.IsListIter it t (i + n) → Heap.SameBut it s.heap h' → Q ((items.toList.drop i).take n) { s with heap := h' }) → wpAny (model c.prog c.w) A (draw (.ref it) n) Q E s
  | 0, i, s, Q, E, hit, _, _, hQ => by
    show wpAny _ _ (pure []) Q E s
    exact wpAny_pure (by simpa using hQ s.heap hit (Heap.SameBut.refl ..))
  | n + 1, i, s, Q, E, hit, ht, hle, hQ => by
    have hlt : i < items.size := by omega
    show wpAny _ _ (pyNext (.ref it) >>= _) Q E s
    refine wpAny_bind (wpAny_pyNext_list_item hit ht (x := items[i]) (by simp [hlt]) fun h₁ hit₁ hs₁ => ?_)
    refine wpAny_bind (wpAny_holding (draw_list hne n (i + 1) _ _ _ hit₁ (ht.extBut hs₁.extBut hne) (by omega) fun h₂ hit₂ hs₂ => wpAny_pure ?_))
    have hd : items.toList.drop i = items[i] :: items.toList.drop (i + 1) := by simp [List.drop_eq_getElem_cons, hlt]
    have := hQ h₂ (by rw [show i + (n + 1) = i + 1 + n by omega]; exact hit₂) (hs₁.trans hs₂)
    rw [hd, List.take_succ_cons] at this
    exact this

theorem unpackItems_list {t : Addr} {items : Array Value} {s : Shared} {Q : List Value → Shared → Prop} {E : Value → Shared → Prop} (hh : A.handled = none) (ht : s.heap.IsList t items)
    (hQ : ∀ h', Heap.ExtBut s.heap.objs.size s.heap h' → Q items.toList { s with heap := h' }) : wpAny (model c.prog c.w) A (unpackItems (.ref t) items.size none) Q E s := by
  have hlt : t ≠ s.heap.objs.size := by obtain ⟨o, ho, _⟩ := ht; exact Nat.ne_of_lt (Heap.lt_size ho)
  unfold unpackItems
  refine wpAny_bind ?_
  · unfold notIterableAtAll
    refine wpAny_bind (wpAny_specialOf ht.typeIs slot_list_iter.lookup ?_)
    refine wpAny_pure ?_
    simp only [Bool.false_eq_true, if_false]
    refine wpAny_bind (wpAny_holding (wpAny_pyIter_list ht ?_))
    have ht' := ht.push { cls := .type "list_iterator", data := .fields #[.ref t, .int 0 0] }
    refine wpAny_bind (wpAny_holding (draw_list hlt items.size 0 _ _ _ ⟨_, Heap.get?_push_size _ rfl, rfl, rfl⟩ ht' (by omega) fun h₁ hit₁ hs₁ => ?_))
    have hall : List.take items.size (List.drop 0 items.toList) = items.toList := by
      rw [List.drop_zero]; exact List.take_of_length_le (by simp)
    rw [hall]
    rw [if_neg (by simp)]
    have ht₁ : h₁.IsList t items := ht'.extBut hs₁.extBut hlt
    refine wpAny_bind (wpAny_holding (wpAny_pyNext_list_end hh hit₁ ht₁ (by simp) fun h₂ he₂ => ?_))
    simp only [Option.isSome_none, Bool.false_eq_true, if_false]
    refine wpAny_pure (hQ h₂ fun b o hb e => he₂ b o hb (hs₁.extBut b o hb (Heap.get?_push_of_some _ e)))

noncomputable def seqAt (h : List O) (j : Nat) : Option (List V) := match h[j]? with
  | some (.tup l) => some l
  | some (.list l) => some l
  | none => none
noncomputable def unpF (is : List Nat) (f : St → Option (V × St)) : St → Option (Fl × St) := fun σ =>
  match f σ with
  | some (.ref j, σ₁) => match seqAt σ₁.h j with
    | some l => if l.length = is.length then some (.next, setAll is l σ₁) else none
    | none => none
  | _ => none
theorem All2.len {α β : Type} {R : α → β → Prop} {l : List α} {m : List β} (h : All2 R l m) : l.length = m.length := h.length
theorem each_len : ∀ {es : List Expr} {is : List Nat}, All2 (fun e i => ∃ x p, e = .Name x p ∧ AccS en sl x i) es is → (assignEach es en).length = is.length ∧ (assignEach es en).findIdx? (·.1) = none
  | _, _, .nil => ⟨rfl, rfl⟩
  | _, _, .cons h hr => by
    obtain ⟨x, p, rfl, _⟩ := h
    obtain ⟨h1, h2⟩ := each_len hr
    refine ⟨?_, ?_⟩
    · show _ + 1 = _ + 1; rw [h1]
    · show List.findIdx? _ ((false, assign (.Name x p) en) :: _) = none
      rw [List.findIdx?_cons, h2]; rfl
theorem ExS.unpack {es : List Expr} {k : Nat} {tpos pos : Pos} {y : Expr} {is : List Nat} {f : St → Option (V × St)} (hc : A.handled = none) (a : All2 (fun e i => ∃ x p, e = .Name x p ∧ AccS en sl x i) es is) (hy : EvE c A sl (eval y en) f)
    (hs : swapsWithSole [.Tuple es k tpos] y pos.line en = pure false := by rfl) (hw : swappedStores [.Tuple es k tpos] y en = pure none := by rfl) : ExS c A sl (exec (.Assign [.Tuple es k tpos] y pos) en) (unpF is f) := by
  intro h₀ α σ s v σ' Q E ok I e q
  unfold unpF at e
  split at e
  · rename_i j σ₁ e1
    split at e
    · rename_i l e2
      split at e
      · rename_i hn
        cases e
        obtain ⟨l1, l2⟩ := each_len (en := en) a
        refine Assign_Tuple (hy _ _ _ _ _ _ _ _ ok I e1 fun α₁ x h₁ tk₁ p₁ r₁ I₁ => ?_) hs hw
        rw [arm_assign_Tuple]
        refine wpAny_bind (wpAny_standAt ?_)
        have fin : ∀ (vs : List Value), All2 (Rep c.z α₁) l vs → (∀ h', Heap.ExtBut h₁.objs.size h₁ h' → wpAny (model c.prog c.w) A (assignInOrder ((assignEach es en).map (·.2)) vs) (fun _ => Q .next) E { s with heap := h', toks := tk₁ }) := by
          intro vs hv h' eb
          refine assign_each (s := { s with heap := h', toks := tk₁ }) a hn (I₁.keeps fun b o e => eb b o (fun q => ?_) e) hv fun h₂ tk₂ I₂ => q α₁ _ h₂ tk₂ p₁ rfl I₂
          have := Heap.lt_size e; rw [q] at this; exact Nat.lt_irrefl _ this
        unfold seqAt at e2
        split at e2
        · rename_i l' e3
          cases e2
          obtain ⟨b, vs, n, rfl, _, e4, e5⟩ := I₁.tup e3 r₁
          have lv := e5.length
          refine wpAny_unpack_tuple hc (items := vs.toArray) ⟨_, e4, rfl, n, rfl⟩ (by rw [l1, ← hn, lv]; simp) l2 (by simpa using fin vs e5)
        · rename_i l' e3
          cases e2
          obtain ⟨b, vs, n, rfl, _, e4, e5⟩ := I₁.list e3 r₁
          have lv := e5.length
          unfold PySem.unpack
          have hsz : (assignEach es en).length = vs.toArray.size := by rw [l1, ← hn, lv]; simp
          rw [hsz, l2]
          exact wpAny_bind (wpAny_holding (unpackItems_list hc (isList_of e4) (by simpa using fin vs e5)))
        · cases e2
      · cases e
    · cases e
  · cases e
end
end Mine

-- M12
namespace Mine
section
variable {c : Cx} {A : Around} {sl : List Slot} {en : Env}

noncomputable def strsOf : List V → Option (List (List Nat))
  | [] => some []
  | .str s :: r => match strsOf r with
    | some l => some (s :: l)
    | none => none
  | _ => none
theorem strsOf_items {z : Zt} {α : List Addr} : ∀ {l : List V} {ns : List (List Nat)} {vs : List Value}, strsOf l = some ns → All2 (Rep z α) l vs → ∃ ps : List (Str × Tok), vs = strValues ps ∧ ps.map (·.1) = ns.map fun s => ⟨s.toArray⟩
  | [], _, _, e, .nil => by cases e; exact ⟨[], rfl, rfl⟩
  | .str s :: r, ns, _, e, .cons h rs => by
    unfold strsOf at e
    split at e
    · rename_i l e1
      cases e
      obtain ⟨ps, rfl, e2⟩ := strsOf_items e1 rs
      obtain ⟨t, rfl⟩ := h
      exact ⟨(⟨s.toArray⟩, t) :: ps, rfl, by simp [e2]⟩
    · cases e
  | .int _ _ :: _, _, _, e, _ => by cases e
  | .bool _ :: _, _, _, e, _ => by cases e
  | .nil :: _, _, _, e, _ => by cases e
  | .bytes _ :: _, _, _, e, _ => by cases e
  | .ref _ :: _, _, _, e, _ => by cases e
  | .opq _ :: _, _, _, e, _ => by cases e
noncomputable def flatL : List (List Nat) → List Nat
  | [] => []
  | a :: r => a ++ flatL r
theorem glue_flat : ∀ (ns : List (List Nat)) (a : List Nat), ((ns.map fun s => (⟨s.toArray⟩ : Str)).foldl (fun acc p => acc ++ (⟨#[]⟩ : Str).cps ++ p.cps) a.toArray) = (a ++ flatL ns).toArray
  | [], a => by simp [flatL]
  | b :: r, a => by
    rw [List.map_cons, List.foldl_cons]
    have := glue_flat r (a ++ b)
    simp only [flatL]
    rw [← List.append_assoc, ← this]
    congr 1
    simp
theorem join_flat (ns : List (List Nat)) : Txt.join ⟨#[]⟩ (ns.map fun s => (⟨s.toArray⟩ : Str)) = ⟨(flatL ns).toArray⟩ := by
  unfold Txt.join Builtin.Str.glued
  cases ns with
  | nil => rfl
  | cons a r =>
    have := glue_flat r a
    apply Str.ext'
    simpa [flatL] using this

noncomputable def joinV (h : List O) : V → Option V
  | .ref i => match h[i]? with
    | some (.list l) => match strsOf l with
      | some ns => if JoinOk ⟨#[]⟩ (ns.map fun s => ⟨s.toArray⟩) = true then some (.str (flatL ns)) else none
      | none => none
    | _ => none
  | _ => none
theorem EvE.join {k : Nat} {p apos pos : Pos} {x : Str} {y : Expr} {g : St → Option (V × St)} (hx : x = ⟨#[]⟩) (hy : EvE c A sl (eval y en) g)
    (hb : attributeBase (.Constant (.str x) k p) "join" en (eval (.Constant (.str x) k p) en) = eval (.Constant (.str x) k p) en := by rfl) (hl : (apos.endLine == pos.line) = true := by rfl) (hs : starEach [y] en = [(false, eval y en)] := by rfl) :
    EvE c A sl (eval (.Call (.Attribute (.Constant (.str x) k p) "join" apos) [y] [] pos) en) (unH g joinV) := by
  intro h₀ α σ s v σ' Q E ok I e q
  subst hx
  unfold unH at e
  split at e
  · cases e
  · rename_i a σ₁ e1
    split at e
    · cases e
    · rename_i v' e2
      cases e
      refine wpAny_Call_method_lateS hb (by rw [hs]; rfl) hl (wpAny_Constant_str ?_)
      rw [hs]
      refine SB.join (a := eval y en) (hy _ _ _ _ _ _ _ _ ok I e1 fun α₁ x h₁ tk₁ p₁ r₁ I₁ => ?_)
      unfold joinV at e2
      split at e2
      · split at e2
        · rename_i l e3
          split at e2
          · rename_i ns e4
            split at e2
            · rename_i hj
              cases e2
              obtain ⟨b, vs, n, rfl, _, e5, e6⟩ := I₁.list e3 r₁
              obtain ⟨ps, rfl, e7⟩ := strsOf_items e4 e6
              refine ⟨b, ps, rfl, isList_of e5, _, e7, hj, fun t' tk => ?_⟩
              rw [join_flat]
              exact q α₁ _ h₁ tk p₁ ⟨t', rfl⟩ I₁
            · cases e2
          · cases e2
        · cases e2
      · cases e2

-- lists side by side
noncomputable def Op2H (c : Cx) (A : Around) (t : Value → Value → Sem Value) (g : List O → V → V → Option V) : Prop :=
  ∀ (h₀ : Heap) (sl : List Slot) (α : List Addr) (σ : St) (s : Shared) (a b v : V) (x y : Value) (Q : Value → Shared → Prop) (E : Value → Shared → Prop),
    c.ok h₀ → Inv c.z h₀ sl α σ s.heap → Rep c.z α a x → Rep c.z α b y → g σ.h a b = some v →
    (∀ w h' tk, Rep c.z α v w → (∀ b o, s.heap.get? b = some o → h'.get? b = some o) → Q w { s with heap := h', toks := tk }) → wpAny (model c.prog c.w) A (t x y) Q E s
theorem EvE.cmpH {l r : Expr} {op : CmpOp} {pos : Pos} {fl fr : St → Option (V × St)} {g : List O → V → V → Option V}
    (hl : EvE c A sl (eval l en) fl) (hr : EvE c A sl (eval r en) fr) (ho : Op2H c A (compareOp op) g) (hb : behindInMarks op r = false := by rfl) : EvE c A sl (eval (.Compare l [op] [r] pos) en) (binH fl fr g) := by
  intro h₀ α σ s v σ' Q E ok I e q
  unfold binH at e
  split at e
  · cases e
  · rename_i a σ₁ e1
    split at e
    · cases e
    · rename_i b σ₂ e2
      split at e
      · cases e
      · rename_i v' e3
        cases e
        refine wpAny_Compare1 (hl _ _ _ _ _ _ _ _ ok I e1 fun α₁ x h₁ tk₁ p₁ r₁ I₁ => ?_) hb
        refine hr _ _ _ _ _ _ _ _ ok I₁ e2 fun α₂ y h₂ tk₂ p₂ r₂ I₂ => ?_
        exact ho _ _ _ _ { s with heap := h₂, toks := tk₂ } _ _ _ _ _ _ _ ok I₂ (r₁.mono p₂) r₂ e3 fun w h' tk rw k => q α₂ w h' tk (p₁.trans p₂) rw (I₂.keeps k)
theorem EvB.cmpH {l r : Expr} {op : CmpOp} {pos : Pos} {fl fr : St → Option (V × St)} {g : List O → V → V → Option V}
    (hl : EvE c A sl (eval l en) fl) (hr : EvE c A sl (eval r en) fr) (ho : Op2H c A (compareOp op) g) (hb : behindInMarks op r = false := by rfl) {whole : Sem Value} : EvB c A sl (isTrue (.Compare l [op] [r] pos) en whole) (tst (binH fl fr g)) := by
  intro h₀ α σ s v σ' Q E ok I e q
  unfold tst binH at e
  split at e
  · cases e
  · rename_i a σ₁ e1
    split at e1
    · cases e1
    · rename_i x σ₂ e2
      split at e1
      · cases e1
      · rename_i y σ₃ e3
        split at e1
        · cases e1
        · rename_i w e4
          cases e1
          split at e
          · cases e
          · rename_i b e5
            cases e
            refine wpAny_isTrue_Compare1 (hl _ _ _ _ _ _ _ _ ok I e2 fun α₁ x h₁ tk₁ p₁ r₁ I₁ => ?_) hb
            refine hr _ _ _ _ _ _ _ _ ok I₁ e3 fun α₂ y h₂ tk₂ p₂ r₂ I₂ => ?_
            exact ho _ _ _ _ { s with heap := h₂, toks := tk₂ } _ _ _ _ _ _ _ ok I₂ (r₁.mono p₂) r₂ e4 fun w h' tk rw k => truth_of rw e5 (q α₂ h' tk (p₁.trans p₂) (I₂.keeps k))

theorem intsAre' : ∀ ps : List (Int × Tok), IntsAre (ps.map fun p => Value.int p.1 p.2) (ps.map (·.1))
  | [] => .nil
  | p :: r => .cons p.1 p.2 (intsAre' r)
theorem intsAre {z : Zt} {α : List Addr} {l : List V} {ns : List Int} {vs : List Value} (e : intsOf l = some ns) (r : All2 (Rep z α) l vs) : IntsAre vs ns := by
  obtain ⟨ps, rfl, rfl⟩ := intsOf_items e r
  exact intsAre' ps
noncomputable def neL (h : List O) : V → V → Option V
  | .ref i, .ref j => match h[i]?, h[j]? with
    | some (.list l), some (.list m) => match intsOf l, intsOf m with
      | some ns, some ms => some (.bool (!decide (ns = ms)))
      | _, _ => none
    | _, _ => none
  | _, _ => none
theorem Op2H.neL (hu : A.units + 64 < cLine) : Op2H c A (compareOp .NotEq) neL := by
  intro h₀ sl α σ s a b v x y Q E ok I r₁ r₂ e3 q
  unfold Mine.neL at e3
  split at e3
  · split at e3
    · rename_i l m e4 e5
      split at e3
      · rename_i ns ms e6 e7
        cases e3
        obtain ⟨b1, vs, n, rfl, _, f1, f2⟩ := I.list e4 r₁
        obtain ⟨b2, us, n', rfl, _, f3, f4⟩ := I.list e5 r₂
        exact W.cmp_ofNotEq (W.ne_intsK (isList_of f1) (intsAre e6 f2) (isList_of f3) (intsAre e7 f4) hu (q _ s.heap s.toks rfl fun _ _ e => e))
      · cases e3
    · cases e3
  · cases e3

noncomputable def isBytes : V → Bool
  | .bytes _ => true
  | _ => false
noncomputable def eqB (h : List O) : V → V → Option V
  | .ref i, .ref j => match h[i]?, h[j]? with
    | some (.list l), some (.list m) => if l = m ∧ l.all isBytes = true then some (.bool true) else none
    | _, _ => none
  | _, _ => none
theorem Op2H.eqB (hu : A.units < cLine) : Op2H c A (compareOp .Eq) eqB := by
  intro h₀ sl α σ s a b v x y Q E ok I r₁ r₂ e3 q
  unfold Mine.eqB at e3
  split at e3
  · split at e3
    · rename_i l m e4 e5
      split at e3
      · rename_i hlm
        obtain ⟨rfl, hb⟩ := hlm
        cases e3
        obtain ⟨b1, vs, n, rfl, _, f1, f2⟩ := I.list e4 r₁
        obtain ⟨b2, us, n', rfl, _, f3, f4⟩ := I.list e5 r₂
        have l1 := f2.length
        have l2 := f4.length
        refine PySem.SeqAt.eq_listAt (e := fun _ => true) (isList_of f1) (isList_of f3) (by simp [← l1, ← l2]) hu (fun j h1 h2 => ?_) ?_
        · simp only [List.size_toArray] at h1 h2
          obtain ⟨va, ea, ra⟩ := f2.get' (i := j) (b := vs[j]) (by simp [h1])
          obtain ⟨vb, eb, rb⟩ := f4.get' (i := j) (b := us[j]) (by simp [h2])
          rw [ea] at eb; cases eb
          have hbv := List.all_eq_true.mp hb va (List.mem_of_getElem? ea)
          cases va with
          | bytes d =>
            obtain ⟨t, ea'⟩ := ra
            obtain ⟨u, eb'⟩ := rb
            intro prog w E' Q' hq
            have e1 : (vs.toArray)[j] = .bytes d.toArray t := by simpa using ea'
            have e2 : (us.toArray)[j] = .bytes d.toArray u := by simpa using eb'
            rw [e1, e2]
            refine W.eqBool_bytes ?_
            simpa using hq
          | int => cases hbv
          | str => cases hbv
          | bool => cases hbv
          | nil => cases hbv
          | ref => cases hbv
          | opq => cases hbv
        · have : (List.range vs.toArray.size).all (fun _ => true) = true := by simp
          rw [this]
          exact q _ s.heap s.toks rfl fun _ _ e => e
      · cases e3
    · cases e3
  · cases e3
end
end Mine

-- M13
namespace Mine
noncomputable def nthS : List Stmt → Nat → Stmt
  | [], _ => .Pass default
  | s :: _, 0 => s
  | _ :: r, n + 1 => nthS r n
noncomputable def bodyS : Stmt → List Stmt
  | .FunctionDef _ _ b .. => b
  | _ => []
noncomputable def paramsS : Stmt → Arguments → Arguments
  | .FunctionDef _ a .., _ => a
  | _, d => d
noncomputable def scopeS : Stmt → Scope → Scope
  | .FunctionDef _ _ _ _ _ _ s .., _ => s
  | _, d => d
set_option maxRecDepth 100000 in
noncomputable def allS : { l : List Stmt // behindTheImports PySem.Challenge.pw_ta0025_01 = l } := by
  refine ⟨?a, ?b⟩
  case b => conv => lhs; whnf
noncomputable def blist : List (Str × Value) := [("len", .builtin "len"), ("range", .type "range"), ("chr", .builtin "chr"), ("sum", .builtin "sum"), ("ord", .builtin "ord"), ("abs", .builtin "abs"), ("divmod", .builtin "divmod"), ("int", .type "int"), ("bytes", .type "bytes")]

/-- where the top's things lie -/
structure Ad where
  fix : Addr
  int2 : Addr
  b3 : Addr
  fib : Addr
  spelled : Addr
  folds : Addr
  lengths : Addr
  product : Addr
  law : Addr
  twin : Addr
  dict : Addr
  crlf : Tok
  cd : Nat → Value
  pm : Nat → Value

noncomputable def glist (D : Ad) : List (Str × Value) := [("_fix_eols", .ref D.fix), ("Int2AP", .ref D.int2), ("map_table_b3", .ref D.b3), ("_law_fibonacci", .ref D.fib), ("_law_spelled", .ref D.spelled), ("_law_by_folds", .ref D.folds), ("_law_by_lengths", .ref D.lengths), ("_law_product", .ref D.product), ("_twin_re_1", .ref D.twin), ("b3_exceptions", .ref D.dict), ("CRLF", .str "\r\n" D.crlf)]

noncomputable def fnD (D : Ad) (k : Nat) (name : Str) (P : Arguments) (B : List Stmt) (S : Scope) : FuncData :=
  { name := name, qualname := name, params := P, body := .stmts B, scope := S, globals := mainGlobals, closure := [], defaults := .none, kwdefaults := .none, doc := .none, pyModule := D.pm k, annotations := none, code := D.cd k, closureTuple := .none, builtins := builtinsNs }

set_option maxRecDepth 100000 in
noncomputable def Bi_fix : { l : List Stmt // bodyS (nthS allS.1 3) = l } := by
  refine ⟨?a, ?b⟩
  case b => conv => lhs; whnf
noncomputable def B_fix : List Stmt := Bi_fix.1
set_option maxRecDepth 100000 in
noncomputable def Bi_int2 : { l : List Stmt // bodyS (nthS allS.1 5) = l } := by
  refine ⟨?a, ?b⟩
  case b => conv => lhs; whnf
noncomputable def B_int2 : List Stmt := Bi_int2.1
set_option maxRecDepth 100000 in
noncomputable def Bi_b3 : { l : List Stmt // bodyS (nthS allS.1 8) = l } := by
  refine ⟨?a, ?b⟩
  case b => conv => lhs; whnf
noncomputable def B_b3 : List Stmt := Bi_b3.1
set_option maxRecDepth 100000 in
noncomputable def Bi_fib : { l : List Stmt // bodyS (nthS allS.1 10) = l } := by
  refine ⟨?a, ?b⟩
  case b => conv => lhs; whnf
noncomputable def B_fib : List Stmt := Bi_fib.1
set_option maxRecDepth 100000 in
noncomputable def Bi_spelled : { l : List Stmt // bodyS (nthS allS.1 11) = l } := by
  refine ⟨?a, ?b⟩
  case b => conv => lhs; whnf
noncomputable def B_spelled : List Stmt := Bi_spelled.1
set_option maxRecDepth 100000 in
noncomputable def Bi_folds : { l : List Stmt // bodyS (nthS allS.1 12) = l } := by
  refine ⟨?a, ?b⟩
  case b => conv => lhs; whnf
noncomputable def B_folds : List Stmt := Bi_folds.1
set_option maxRecDepth 100000 in
noncomputable def Bi_lengths : { l : List Stmt // bodyS (nthS allS.1 13) = l } := by
  refine ⟨?a, ?b⟩
  case b => conv => lhs; whnf
noncomputable def B_lengths : List Stmt := Bi_lengths.1
set_option maxRecDepth 100000 in
noncomputable def Bi_product : { l : List Stmt // bodyS (nthS allS.1 14) = l } := by
  refine ⟨?a, ?b⟩
  case b => conv => lhs; whnf
noncomputable def B_product : List Stmt := Bi_product.1
set_option maxRecDepth 100000 in
noncomputable def Bi_law : { l : List Stmt // bodyS (nthS allS.1 15) = l } := by
  refine ⟨?a, ?b⟩
  case b => conv => lhs; whnf
noncomputable def B_law : List Stmt := Bi_law.1
set_option maxRecDepth 100000 in
noncomputable def Pi_fix : { l : Arguments // paramsS (nthS allS.1 3) ⟨[], [], none, [], [], none, []⟩ = l } := by
  refine ⟨?a, ?b⟩
  case b => conv => lhs; whnf
noncomputable def P_fix : Arguments := Pi_fix.1
set_option maxRecDepth 100000 in
noncomputable def Pi_int2 : { l : Arguments // paramsS (nthS allS.1 5) ⟨[], [], none, [], [], none, []⟩ = l } := by
  refine ⟨?a, ?b⟩
  case b => conv => lhs; whnf
noncomputable def P_int2 : Arguments := Pi_int2.1
set_option maxRecDepth 100000 in
noncomputable def Pi_b3 : { l : Arguments // paramsS (nthS allS.1 8) ⟨[], [], none, [], [], none, []⟩ = l } := by
  refine ⟨?a, ?b⟩
  case b => conv => lhs; whnf
noncomputable def P_b3 : Arguments := Pi_b3.1
set_option maxRecDepth 100000 in
noncomputable def Pi_fib : { l : Arguments // paramsS (nthS allS.1 10) ⟨[], [], none, [], [], none, []⟩ = l } := by
  refine ⟨?a, ?b⟩
  case b => conv => lhs; whnf
noncomputable def P_fib : Arguments := Pi_fib.1
set_option maxRecDepth 100000 in
noncomputable def Pi_spelled : { l : Arguments // paramsS (nthS allS.1 11) ⟨[], [], none, [], [], none, []⟩ = l } := by
  refine ⟨?a, ?b⟩
  case b => conv => lhs; whnf
noncomputable def P_spelled : Arguments := Pi_spelled.1
set_option maxRecDepth 100000 in
noncomputable def Pi_folds : { l : Arguments // paramsS (nthS allS.1 12) ⟨[], [], none, [], [], none, []⟩ = l } := by
  refine ⟨?a, ?b⟩
  case b => conv => lhs; whnf
noncomputable def P_folds : Arguments := Pi_folds.1
set_option maxRecDepth 100000 in
noncomputable def Pi_lengths : { l : Arguments // paramsS (nthS allS.1 13) ⟨[], [], none, [], [], none, []⟩ = l } := by
  refine ⟨?a, ?b⟩
  case b => conv => lhs; whnf
noncomputable def P_lengths : Arguments := Pi_lengths.1
set_option maxRecDepth 100000 in
noncomputable def Pi_product : { l : Arguments // paramsS (nthS allS.1 14) ⟨[], [], none, [], [], none, []⟩ = l } := by
  refine ⟨?a, ?b⟩
  case b => conv => lhs; whnf
noncomputable def P_product : Arguments := Pi_product.1
set_option maxRecDepth 100000 in
noncomputable def Pi_law : { l : Arguments // paramsS (nthS allS.1 15) ⟨[], [], none, [], [], none, []⟩ = l } := by
  refine ⟨?a, ?b⟩
  case b => conv => lhs; whnf
noncomputable def P_law : Arguments := Pi_law.1
set_option maxRecDepth 100000 in
noncomputable def Si_fix : { l : Scope // scopeS (nthS allS.1 3) PySem.Challenge.pw_ta0025_01.main.scope = l } := by
  refine ⟨?a, ?b⟩
  case b => conv => lhs; whnf
noncomputable def S_fix : Scope := Si_fix.1
set_option maxRecDepth 100000 in
noncomputable def Si_int2 : { l : Scope // scopeS (nthS allS.1 5) PySem.Challenge.pw_ta0025_01.main.scope = l } := by
  refine ⟨?a, ?b⟩
  case b => conv => lhs; whnf
noncomputable def S_int2 : Scope := Si_int2.1
set_option maxRecDepth 100000 in
noncomputable def Si_b3 : { l : Scope // scopeS (nthS allS.1 8) PySem.Challenge.pw_ta0025_01.main.scope = l } := by
  refine ⟨?a, ?b⟩
  case b => conv => lhs; whnf
noncomputable def S_b3 : Scope := Si_b3.1
set_option maxRecDepth 100000 in
noncomputable def Si_fib : { l : Scope // scopeS (nthS allS.1 10) PySem.Challenge.pw_ta0025_01.main.scope = l } := by
  refine ⟨?a, ?b⟩
  case b => conv => lhs; whnf
noncomputable def S_fib : Scope := Si_fib.1
set_option maxRecDepth 100000 in
noncomputable def Si_spelled : { l : Scope // scopeS (nthS allS.1 11) PySem.Challenge.pw_ta0025_01.main.scope = l } := by
  refine ⟨?a, ?b⟩
  case b => conv => lhs; whnf
noncomputable def S_spelled : Scope := Si_spelled.1
set_option maxRecDepth 100000 in
noncomputable def Si_folds : { l : Scope // scopeS (nthS allS.1 12) PySem.Challenge.pw_ta0025_01.main.scope = l } := by
  refine ⟨?a, ?b⟩
  case b => conv => lhs; whnf
noncomputable def S_folds : Scope := Si_folds.1
set_option maxRecDepth 100000 in
noncomputable def Si_lengths : { l : Scope // scopeS (nthS allS.1 13) PySem.Challenge.pw_ta0025_01.main.scope = l } := by
  refine ⟨?a, ?b⟩
  case b => conv => lhs; whnf
noncomputable def S_lengths : Scope := Si_lengths.1
set_option maxRecDepth 100000 in
noncomputable def Si_product : { l : Scope // scopeS (nthS allS.1 14) PySem.Challenge.pw_ta0025_01.main.scope = l } := by
  refine ⟨?a, ?b⟩
  case b => conv => lhs; whnf
noncomputable def S_product : Scope := Si_product.1
set_option maxRecDepth 100000 in
noncomputable def Si_law : { l : Scope // scopeS (nthS allS.1 15) PySem.Challenge.pw_ta0025_01.main.scope = l } := by
  refine ⟨?a, ?b⟩
  case b => conv => lhs; whnf
noncomputable def S_law : Scope := Si_law.1

noncomputable abbrev F_fix (D : Ad) := fnD D 0 "_fix_eols" P_fix B_fix S_fix
noncomputable abbrev F_int2 (D : Ad) := fnD D 1 "Int2AP" P_int2 B_int2 S_int2
noncomputable abbrev F_b3 (D : Ad) := fnD D 2 "map_table_b3" P_b3 B_b3 S_b3
noncomputable abbrev F_fib (D : Ad) := fnD D 3 "_law_fibonacci" P_fib B_fib S_fib
noncomputable abbrev F_spelled (D : Ad) := fnD D 4 "_law_spelled" P_spelled B_spelled S_spelled
noncomputable abbrev F_folds (D : Ad) := fnD D 5 "_law_by_folds" P_folds B_folds S_folds
noncomputable abbrev F_lengths (D : Ad) := fnD D 6 "_law_by_lengths" P_lengths B_lengths S_lengths
noncomputable abbrev F_product (D : Ad) := fnD D 7 "_law_product" P_product B_product S_product
noncomputable abbrev F_law (D : Ad) := fnD D 8 "law" P_law B_law S_law

theorem form_fix (D : Ad) : FnForm (F_fix D) ["data"] ["data"] B_fix where
  body := rfl
  bind := fun vals h => by
    match vals, h with
    | [a], _ => rfl
  clo := rfl
  kinds := (by decide +kernel : ∀ x ∈ (["data"] : List Str), S_fix.names.lookup x = some .local ∨ S_fix.names.lookup x = some .cell)
  pre := ⟨_, rfl⟩
  nodup := by decide +kernel
  cor := rfl
  gen := rfl
  kind := rfl
theorem form_int2 (D : Ad) : FnForm (F_int2 D) ["num"] ["num", "val", "AP", "mod"] B_int2 where
  body := rfl
  bind := fun vals h => by
    match vals, h with
    | [a], _ => rfl
  clo := rfl
  kinds := (by decide +kernel : ∀ x ∈ (["num", "val", "AP", "mod"] : List Str), S_int2.names.lookup x = some .local ∨ S_int2.names.lookup x = some .cell)
  pre := ⟨_, rfl⟩
  nodup := by decide +kernel
  cor := rfl
  gen := rfl
  kind := rfl
theorem form_b3 (D : Ad) : FnForm (F_b3 D) ["code"] ["code", "r"] B_b3 where
  body := rfl
  bind := fun vals h => by
    match vals, h with
    | [a], _ => rfl
  clo := rfl
  kinds := (by decide +kernel : ∀ x ∈ (["code", "r"] : List Str), S_b3.names.lookup x = some .local ∨ S_b3.names.lookup x = some .cell)
  pre := ⟨_, rfl⟩
  nodup := by decide +kernel
  cor := rfl
  gen := rfl
  kind := rfl
theorem form_fib (D : Ad) : FnForm (F_fib D) [] ["numbers", "_"] B_fib where
  body := rfl
  bind := fun vals h => by
    match vals, h with
    | [], _ => rfl
  clo := rfl
  kinds := (by decide +kernel : ∀ x ∈ (["numbers", "_"] : List Str), S_fib.names.lookup x = some .local ∨ S_fib.names.lookup x = some .cell)
  pre := ⟨_, rfl⟩
  nodup := by decide +kernel
  cor := rfl
  gen := rfl
  kind := rfl
theorem form_spelled (D : Ad) : FnForm (F_spelled D) ["sizes", "kind"] ["sizes", "kind", "points", "signs", "k"] B_spelled where
  body := rfl
  bind := fun vals h => by
    match vals, h with
    | [a, b], _ => rfl
  clo := rfl
  kinds := (by decide +kernel : ∀ x ∈ (["sizes", "kind", "points", "signs", "k"] : List Str), S_spelled.names.lookup x = some .local ∨ S_spelled.names.lookup x = some .cell)
  pre := ⟨_, rfl⟩
  nodup := by decide +kernel
  cor := rfl
  gen := rfl
  kind := rfl
theorem form_folds (D : Ad) : FnForm (F_folds D) ["signs"] ["signs", "folds", "behind", "places", "fold"] B_folds where
  body := rfl
  bind := fun vals h => by
    match vals, h with
    | [a], _ => rfl
  clo := rfl
  kinds := (by decide +kernel : ∀ x ∈ (["signs", "folds", "behind", "places", "fold"] : List Str), S_folds.names.lookup x = some .local ∨ S_folds.names.lookup x = some .cell)
  pre := ⟨_, rfl⟩
  nodup := by decide +kernel
  cor := rfl
  gen := rfl
  kind := rfl
theorem form_lengths (D : Ad) : FnForm (F_lengths D) ["mail"] ["mail", "sent", "shut", "places", "k"] B_lengths where
  body := rfl
  bind := fun vals h => by
    match vals, h with
    | [a], _ => rfl
  clo := rfl
  kinds := (by decide +kernel : ∀ x ∈ (["mail", "sent", "shut", "places", "k"] : List Str), S_lengths.names.lookup x = some .local ∨ S_lengths.names.lookup x = some .cell)
  pre := ⟨_, rfl⟩
  nodup := by decide +kernel
  cor := rfl
  gen := rfl
  kind := rfl
theorem form_product (D : Ad) : FnForm (F_product D) ["numbers", "one", "other"] ["numbers", "one", "other", "number", "rows", "sizes", "left", "to_come", "mail", "last", "size", "prepared", "places", "same"] B_product where
  body := rfl
  bind := fun vals h => by
    match vals, h with
    | [a, b, c], _ => rfl
  clo := rfl
  kinds := (by decide +kernel : ∀ x ∈ (["numbers", "one", "other", "number", "rows", "sizes", "left", "to_come", "mail", "last", "size", "prepared", "places", "same"] : List Str), S_product.names.lookup x = some .local ∨ S_product.names.lookup x = some .cell)
  pre := ⟨_, rfl⟩
  nodup := by decide +kernel
  cor := rfl
  gen := rfl
  kind := rfl
theorem form_law (D : Ad) : FnForm (F_law D) ["script"] ["script", "own", "read", "which", "cell", "mail", "k", "sizes", "last", "sign", "prepared", "places", "first", "second", "third", "numbers", "word", "left", "good", "well", "others", "ahead", "behind"] B_law where
  body := rfl
  bind := fun vals h => by
    match vals, h with
    | [a], _ => rfl
  clo := rfl
  kinds := (by decide +kernel : ∀ x ∈ (["script", "own", "read", "which", "cell", "mail", "k", "sizes", "last", "sign", "prepared", "places", "first", "second", "third", "numbers", "word", "left", "good", "well", "others", "ahead", "behind"] : List Str), S_law.names.lookup x = some .local ∨ S_law.names.lookup x = some .cell)
  pre := ⟨_, rfl⟩
  nodup := by decide +kernel
  cor := rfl
  gen := rfl
  kind := rfl
end Mine

-- HT
namespace Mine
noncomputable abbrev pw : Program := PySem.Challenge.pw_ta0025_01
noncomputable def sts7 : List Stmt := allS.1.take 7
noncomputable def sts8 : List Stmt := allS.1.drop 8
noncomputable def stD : Stmt := nthS allS.1 7
noncomputable def envH : Env := { scope := pw.main.scope, locals := mainNs, globals := mainNs, cells := [], code := .ref 30, frame := some 31 }
noncomputable def cH : Code := .body (behindTheImports pw) envH
noncomputable def q0 : Pos := ⟨0, 0, 0, 0⟩
noncomputable def annH : Option Value := some (.ref 6)
/-- as far as the opening's end -/
noncomputable def impAllT (p : Program) (w : World) (n : Nat) (s : SharedT) (t : Thread) : Option SharedT := match impGoT treeTable p w n s t with
  | some (s', t') => match t'.atExitBegin with
    | some [] => some s'
    | _ => none
  | none => none
/-- the dict's pairs as they are written -/
noncomputable def ksD : Stmt → List (Option Expr)
  | .Assign _ (.Dict ks _ _) _ => ks
  | _ => []
noncomputable def vsD : Stmt → List Expr
  | .Assign _ (.Dict _ vs _) _ => vs
  | _ => []
noncomputable def xpD : Stmt → Pos
  | .Assign [.Name _ xp] _ _ => xp
  | _ => default
noncomputable def dposD : Stmt → Pos
  | .Assign _ (.Dict _ _ d) _ => d
  | _ => default
noncomputable def posD : Stmt → Pos
  | .Assign _ _ p => p
  | _ => default
noncomputable def psD : List Pr := (writtenOf (ksD stD) (vsD stD)).getD []
noncomputable def chunksOf : Nat → Nat → List Pr → List (List DictEntry)
  | 0, _, _ => []
  | n + 1, t, ps => if ps.isEmpty then [] else subEs t (ps.take 17) :: chunksOf n (t + 3 * (ps.take 17).length) (ps.drop 17)
noncomputable def esD : List (List DictEntry) := chunksOf 39 349 psD
noncomputable def sD : Nat → Obj
  | 0 => dictE esD.flatten
  | n + 1 => dictE (esD.getD (n + 1) [])
noncomputable def lifeH : Life := (@PySem.Life.mk [] [] [] 0 [] [] @Bool.false (List.toArray []) [] 0 @Bool.false @Bool.false @Bool.false 0 [2000, 10, 10] @Bool.false 0 @Bool.true [] [] 0 @Bool.false)
noncomputable def drawnH : Drawn := (@PySem.Drawn.mk 0 0 0 0)
noncomputable def hz_tree (p : Params) : BT := .nil
noncomputable def hz (w : World) (os : OsState) : SharedT := ⟨hz_tree w.params, 0, lifeH, #[], drawnH, 1, os⟩
noncomputable def ho_0 (p : Params) : Obj := (@PySem.Obj.mk (@PySem.Value.type "dict") none (@PySem.Data.dict (List.toArray [(@PySem.DictEntry.mk (@PySem.PyData.keyHash p (Str.ofString "__name__")) (@PySem.Value.str (Str.ofString "__name__") 1) (@PySem.Value.str (Str.ofString "builtins") 160)), (@PySem.DictEntry.mk (@PySem.PyData.keyHash p (Str.ofString "__doc__")) (@PySem.Value.str (Str.ofString "__doc__") 2) (@PySem.Value.builtin "builtins.__doc__:str#opaque")), (@PySem.DictEntry.mk (@PySem.PyData.keyHash p (Str.ofString "__package__")) (@PySem.Value.str (Str.ofString "__package__") 3) (@PySem.Value.builtin "builtins.__package__:str#opaque")), (@PySem.DictEntry.mk (@PySem.PyData.keyHash p (Str.ofString "__loader__")) (@PySem.Value.str (Str.ofString "__loader__") 4) (@PySem.Value.builtin "builtins.__loader__:shared#opaque")), (@PySem.DictEntry.mk (@PySem.PyData.keyHash p (Str.ofString "__spec__")) (@PySem.Value.str (Str.ofString "__spec__") 5) (@PySem.Value.builtin "builtins.__spec__#opaque")), (@PySem.DictEntry.mk (@PySem.PyData.keyHash p (Str.ofString "__build_class__")) (@PySem.Value.str (Str.ofString "__build_class__") 6) (@PySem.Value.builtin "__build_class__")), (@PySem.DictEntry.mk (@PySem.PyData.keyHash p (Str.ofString "__import__")) (@PySem.Value.str (Str.ofString "__import__") 7) (@PySem.Value.builtin "__import__")), (@PySem.DictEntry.mk (@PySem.PyData.keyHash p (Str.ofString "abs")) (@PySem.Value.str (Str.ofString "abs") 8) (@PySem.Value.builtin "abs")), (@PySem.DictEntry.mk (@PySem.PyData.keyHash p (Str.ofString "all")) (@PySem.Value.str (Str.ofString "all") 9) (@PySem.Value.builtin "all")), (@PySem.DictEntry.mk (@PySem.PyData.keyHash p (Str.ofString "any")) (@PySem.Value.str (Str.ofString "any") 10) (@PySem.Value.builtin "any")), (@PySem.DictEntry.mk (@PySem.PyData.keyHash p (Str.ofString "ascii")) (@PySem.Value.str (Str.ofString "ascii") 11) (@PySem.Value.builtin "ascii")), (@PySem.DictEntry.mk (@PySem.PyData.keyHash p (Str.ofString "bin")) (@PySem.Value.str (Str.ofString "bin") 12) (@PySem.Value.builtin "bin")), (@PySem.DictEntry.mk (@PySem.PyData.keyHash p (Str.ofString "breakpoint")) (@PySem.Value.str (Str.ofString "breakpoint") 13) (@PySem.Value.builtin "breakpoint")), (@PySem.DictEntry.mk (@PySem.PyData.keyHash p (Str.ofString "callable")) (@PySem.Value.str (Str.ofString "callable") 14) (@PySem.Value.builtin "callable")), (@PySem.DictEntry.mk (@PySem.PyData.keyHash p (Str.ofString "chr")) (@PySem.Value.str (Str.ofString "chr") 15) (@PySem.Value.builtin "chr")), (@PySem.DictEntry.mk (@PySem.PyData.keyHash p (Str.ofString "compile")) (@PySem.Value.str (Str.ofString "compile") 16) (@PySem.Value.builtin "compile")), (@PySem.DictEntry.mk (@PySem.PyData.keyHash p (Str.ofString "delattr")) (@PySem.Value.str (Str.ofString "delattr") 17) (@PySem.Value.builtin "delattr")), (@PySem.DictEntry.mk (@PySem.PyData.keyHash p (Str.ofString "dir")) (@PySem.Value.str (Str.ofString "dir") 18) (@PySem.Value.builtin "dir")), (@PySem.DictEntry.mk (@PySem.PyData.keyHash p (Str.ofString "divmod")) (@PySem.Value.str (Str.ofString "divmod") 19) (@PySem.Value.builtin "divmod")), (@PySem.DictEntry.mk (@PySem.PyData.keyHash p (Str.ofString "eval")) (@PySem.Value.str (Str.ofString "eval") 20) (@PySem.Value.builtin "eval")), (@PySem.DictEntry.mk (@PySem.PyData.keyHash p (Str.ofString "exec")) (@PySem.Value.str (Str.ofString "exec") 21) (@PySem.Value.builtin "exec")), (@PySem.DictEntry.mk (@PySem.PyData.keyHash p (Str.ofString "format")) (@PySem.Value.str (Str.ofString "format") 22) (@PySem.Value.builtin "format")), (@PySem.DictEntry.mk (@PySem.PyData.keyHash p (Str.ofString "getattr")) (@PySem.Value.str (Str.ofString "getattr") 23) (@PySem.Value.builtin "getattr")), (@PySem.DictEntry.mk (@PySem.PyData.keyHash p (Str.ofString "globals")) (@PySem.Value.str (Str.ofString "globals") 24) (@PySem.Value.builtin "globals")), (@PySem.DictEntry.mk (@PySem.PyData.keyHash p (Str.ofString "hasattr")) (@PySem.Value.str (Str.ofString "hasattr") 25) (@PySem.Value.builtin "hasattr")), (@PySem.DictEntry.mk (@PySem.PyData.keyHash p (Str.ofString "hash")) (@PySem.Value.str (Str.ofString "hash") 26) (@PySem.Value.builtin "hash")), (@PySem.DictEntry.mk (@PySem.PyData.keyHash p (Str.ofString "hex")) (@PySem.Value.str (Str.ofString "hex") 27) (@PySem.Value.builtin "hex")), (@PySem.DictEntry.mk (@PySem.PyData.keyHash p (Str.ofString "id")) (@PySem.Value.str (Str.ofString "id") 28) (@PySem.Value.builtin "id")), (@PySem.DictEntry.mk (@PySem.PyData.keyHash p (Str.ofString "input")) (@PySem.Value.str (Str.ofString "input") 29) (@PySem.Value.builtin "input")), (@PySem.DictEntry.mk (@PySem.PyData.keyHash p (Str.ofString "isinstance")) (@PySem.Value.str (Str.ofString "isinstance") 30) (@PySem.Value.builtin "isinstance")), (@PySem.DictEntry.mk (@PySem.PyData.keyHash p (Str.ofString "issubclass")) (@PySem.Value.str (Str.ofString "issubclass") 31) (@PySem.Value.builtin "issubclass")), (@PySem.DictEntry.mk (@PySem.PyData.keyHash p (Str.ofString "iter")) (@PySem.Value.str (Str.ofString "iter") 32) (@PySem.Value.builtin "iter")), (@PySem.DictEntry.mk (@PySem.PyData.keyHash p (Str.ofString "aiter")) (@PySem.Value.str (Str.ofString "aiter") 33) (@PySem.Value.builtin "aiter")), (@PySem.DictEntry.mk (@PySem.PyData.keyHash p (Str.ofString "len")) (@PySem.Value.str (Str.ofString "len") 34) (@PySem.Value.builtin "len")), (@PySem.DictEntry.mk (@PySem.PyData.keyHash p (Str.ofString "locals")) (@PySem.Value.str (Str.ofString "locals") 35) (@PySem.Value.builtin "locals")), (@PySem.DictEntry.mk (@PySem.PyData.keyHash p (Str.ofString "max")) (@PySem.Value.str (Str.ofString "max") 36) (@PySem.Value.builtin "max")), (@PySem.DictEntry.mk (@PySem.PyData.keyHash p (Str.ofString "min")) (@PySem.Value.str (Str.ofString "min") 37) (@PySem.Value.builtin "min")), (@PySem.DictEntry.mk (@PySem.PyData.keyHash p (Str.ofString "next")) (@PySem.Value.str (Str.ofString "next") 38) (@PySem.Value.builtin "next")), (@PySem.DictEntry.mk (@PySem.PyData.keyHash p (Str.ofString "anext")) (@PySem.Value.str (Str.ofString "anext") 39) (@PySem.Value.builtin "anext")), (@PySem.DictEntry.mk (@PySem.PyData.keyHash p (Str.ofString "oct")) (@PySem.Value.str (Str.ofString "oct") 40) (@PySem.Value.builtin "oct")), (@PySem.DictEntry.mk (@PySem.PyData.keyHash p (Str.ofString "ord")) (@PySem.Value.str (Str.ofString "ord") 41) (@PySem.Value.builtin "ord")), (@PySem.DictEntry.mk (@PySem.PyData.keyHash p (Str.ofString "pow")) (@PySem.Value.str (Str.ofString "pow") 42) (@PySem.Value.builtin "pow")), (@PySem.DictEntry.mk (@PySem.PyData.keyHash p (Str.ofString "print")) (@PySem.Value.str (Str.ofString "print") 43) (@PySem.Value.builtin "print")), (@PySem.DictEntry.mk (@PySem.PyData.keyHash p (Str.ofString "repr")) (@PySem.Value.str (Str.ofString "repr") 44) (@PySem.Value.builtin "repr")), (@PySem.DictEntry.mk (@PySem.PyData.keyHash p (Str.ofString "round")) (@PySem.Value.str (Str.ofString "round") 45) (@PySem.Value.builtin "round")), (@PySem.DictEntry.mk (@PySem.PyData.keyHash p (Str.ofString "setattr")) (@PySem.Value.str (Str.ofString "setattr") 46) (@PySem.Value.builtin "setattr")), (@PySem.DictEntry.mk (@PySem.PyData.keyHash p (Str.ofString "sorted")) (@PySem.Value.str (Str.ofString "sorted") 47) (@PySem.Value.builtin "sorted")), (@PySem.DictEntry.mk (@PySem.PyData.keyHash p (Str.ofString "sum")) (@PySem.Value.str (Str.ofString "sum") 48) (@PySem.Value.builtin "sum")), (@PySem.DictEntry.mk (@PySem.PyData.keyHash p (Str.ofString "vars")) (@PySem.Value.str (Str.ofString "vars") 49) (@PySem.Value.builtin "vars")), (@PySem.DictEntry.mk (@PySem.PyData.keyHash p (Str.ofString "None")) (@PySem.Value.str (Str.ofString "None") 50) @PySem.Value.none), (@PySem.DictEntry.mk (@PySem.PyData.keyHash p (Str.ofString "Ellipsis")) (@PySem.Value.str (Str.ofString "Ellipsis") 51) @PySem.Value.ellipsis), (@PySem.DictEntry.mk (@PySem.PyData.keyHash p (Str.ofString "NotImplemented")) (@PySem.Value.str (Str.ofString "NotImplemented") 52) @PySem.Value.notImplemented), (@PySem.DictEntry.mk (@PySem.PyData.keyHash p (Str.ofString "False")) (@PySem.Value.str (Str.ofString "False") 53) (@PySem.Value.bool @Bool.false)), (@PySem.DictEntry.mk (@PySem.PyData.keyHash p (Str.ofString "True")) (@PySem.Value.str (Str.ofString "True") 54) (@PySem.Value.bool @Bool.true)), (@PySem.DictEntry.mk (@PySem.PyData.keyHash p (Str.ofString "bool")) (@PySem.Value.str (Str.ofString "bool") 55) (@PySem.Value.type "bool")), (@PySem.DictEntry.mk (@PySem.PyData.keyHash p (Str.ofString "memoryview")) (@PySem.Value.str (Str.ofString "memoryview") 56) (@PySem.Value.type "memoryview")), (@PySem.DictEntry.mk (@PySem.PyData.keyHash p (Str.ofString "bytearray")) (@PySem.Value.str (Str.ofString "bytearray") 57) (@PySem.Value.type "bytearray")), (@PySem.DictEntry.mk (@PySem.PyData.keyHash p (Str.ofString "bytes")) (@PySem.Value.str (Str.ofString "bytes") 58) (@PySem.Value.type "bytes")), (@PySem.DictEntry.mk (@PySem.PyData.keyHash p (Str.ofString "classmethod")) (@PySem.Value.str (Str.ofString "classmethod") 59) (@PySem.Value.type "classmethod")), (@PySem.DictEntry.mk (@PySem.PyData.keyHash p (Str.ofString "complex")) (@PySem.Value.str (Str.ofString "complex") 60) (@PySem.Value.type "complex")), (@PySem.DictEntry.mk (@PySem.PyData.keyHash p (Str.ofString "dict")) (@PySem.Value.str (Str.ofString "dict") 61) (@PySem.Value.type "dict")), (@PySem.DictEntry.mk (@PySem.PyData.keyHash p (Str.ofString "enumerate")) (@PySem.Value.str (Str.ofString "enumerate") 62) (@PySem.Value.type "enumerate")), (@PySem.DictEntry.mk (@PySem.PyData.keyHash p (Str.ofString "filter")) (@PySem.Value.str (Str.ofString "filter") 63) (@PySem.Value.type "filter")), (@PySem.DictEntry.mk (@PySem.PyData.keyHash p (Str.ofString "float")) (@PySem.Value.str (Str.ofString "float") 64) (@PySem.Value.type "float")), (@PySem.DictEntry.mk (@PySem.PyData.keyHash p (Str.ofString "frozenset")) (@PySem.Value.str (Str.ofString "frozenset") 65) (@PySem.Value.type "frozenset")), (@PySem.DictEntry.mk (@PySem.PyData.keyHash p (Str.ofString "property")) (@PySem.Value.str (Str.ofString "property") 66) (@PySem.Value.type "property")), (@PySem.DictEntry.mk (@PySem.PyData.keyHash p (Str.ofString "int")) (@PySem.Value.str (Str.ofString "int") 67) (@PySem.Value.type "int")), (@PySem.DictEntry.mk (@PySem.PyData.keyHash p (Str.ofString "list")) (@PySem.Value.str (Str.ofString "list") 68) (@PySem.Value.type "list")), (@PySem.DictEntry.mk (@PySem.PyData.keyHash p (Str.ofString "map")) (@PySem.Value.str (Str.ofString "map") 69) (@PySem.Value.type "map")), (@PySem.DictEntry.mk (@PySem.PyData.keyHash p (Str.ofString "object")) (@PySem.Value.str (Str.ofString "object") 70) (@PySem.Value.type "object")), (@PySem.DictEntry.mk (@PySem.PyData.keyHash p (Str.ofString "range")) (@PySem.Value.str (Str.ofString "range") 71) (@PySem.Value.type "range")), (@PySem.DictEntry.mk (@PySem.PyData.keyHash p (Str.ofString "reversed")) (@PySem.Value.str (Str.ofString "reversed") 72) (@PySem.Value.type "reversed")), (@PySem.DictEntry.mk (@PySem.PyData.keyHash p (Str.ofString "set")) (@PySem.Value.str (Str.ofString "set") 73) (@PySem.Value.type "set")), (@PySem.DictEntry.mk (@PySem.PyData.keyHash p (Str.ofString "slice")) (@PySem.Value.str (Str.ofString "slice") 74) (@PySem.Value.type "slice")), (@PySem.DictEntry.mk (@PySem.PyData.keyHash p (Str.ofString "staticmethod")) (@PySem.Value.str (Str.ofString "staticmethod") 75) (@PySem.Value.type "staticmethod")), (@PySem.DictEntry.mk (@PySem.PyData.keyHash p (Str.ofString "str")) (@PySem.Value.str (Str.ofString "str") 76) (@PySem.Value.type "str")), (@PySem.DictEntry.mk (@PySem.PyData.keyHash p (Str.ofString "super")) (@PySem.Value.str (Str.ofString "super") 77) (@PySem.Value.type "super")), (@PySem.DictEntry.mk (@PySem.PyData.keyHash p (Str.ofString "tuple")) (@PySem.Value.str (Str.ofString "tuple") 78) (@PySem.Value.type "tuple")), (@PySem.DictEntry.mk (@PySem.PyData.keyHash p (Str.ofString "type")) (@PySem.Value.str (Str.ofString "type") 79) (@PySem.Value.type "type")), (@PySem.DictEntry.mk (@PySem.PyData.keyHash p (Str.ofString "zip")) (@PySem.Value.str (Str.ofString "zip") 80) (@PySem.Value.type "zip")), (@PySem.DictEntry.mk (@PySem.PyData.keyHash p (Str.ofString "__debug__")) (@PySem.Value.str (Str.ofString "__debug__") 81) (@PySem.Value.bool @Bool.true)), (@PySem.DictEntry.mk (@PySem.PyData.keyHash p (Str.ofString "BaseException")) (@PySem.Value.str (Str.ofString "BaseException") 82) (@PySem.Value.type "BaseException")), (@PySem.DictEntry.mk (@PySem.PyData.keyHash p (Str.ofString "BaseExceptionGroup")) (@PySem.Value.str (Str.ofString "BaseExceptionGroup") 83) (@PySem.Value.type "BaseExceptionGroup")), (@PySem.DictEntry.mk (@PySem.PyData.keyHash p (Str.ofString "Exception")) (@PySem.Value.str (Str.ofString "Exception") 84) (@PySem.Value.type "Exception")), (@PySem.DictEntry.mk (@PySem.PyData.keyHash p (Str.ofString "GeneratorExit")) (@PySem.Value.str (Str.ofString "GeneratorExit") 85) (@PySem.Value.type "GeneratorExit")), (@PySem.DictEntry.mk (@PySem.PyData.keyHash p (Str.ofString "KeyboardInterrupt")) (@PySem.Value.str (Str.ofString "KeyboardInterrupt") 86) (@PySem.Value.type "KeyboardInterrupt")), (@PySem.DictEntry.mk (@PySem.PyData.keyHash p (Str.ofString "SystemExit")) (@PySem.Value.str (Str.ofString "SystemExit") 87) (@PySem.Value.type "SystemExit")), (@PySem.DictEntry.mk (@PySem.PyData.keyHash p (Str.ofString "ArithmeticError")) (@PySem.Value.str (Str.ofString "ArithmeticError") 88) (@PySem.Value.type "ArithmeticError")), (@PySem.DictEntry.mk (@PySem.PyData.keyHash p (Str.ofString "AssertionError")) (@PySem.Value.str (Str.ofString "AssertionError") 89) (@PySem.Value.type "AssertionError")), (@PySem.DictEntry.mk (@PySem.PyData.keyHash p (Str.ofString "AttributeError")) (@PySem.Value.str (Str.ofString "AttributeError") 90) (@PySem.Value.type "AttributeError")), (@PySem.DictEntry.mk (@PySem.PyData.keyHash p (Str.ofString "BufferError")) (@PySem.Value.str (Str.ofString "BufferError") 91) (@PySem.Value.type "BufferError")), (@PySem.DictEntry.mk (@PySem.PyData.keyHash p (Str.ofString "EOFError")) (@PySem.Value.str (Str.ofString "EOFError") 92) (@PySem.Value.type "EOFError")), (@PySem.DictEntry.mk (@PySem.PyData.keyHash p (Str.ofString "ImportError")) (@PySem.Value.str (Str.ofString "ImportError") 93) (@PySem.Value.type "ImportError")), (@PySem.DictEntry.mk (@PySem.PyData.keyHash p (Str.ofString "LookupError")) (@PySem.Value.str (Str.ofString "LookupError") 94) (@PySem.Value.type "LookupError")), (@PySem.DictEntry.mk (@PySem.PyData.keyHash p (Str.ofString "MemoryError")) (@PySem.Value.str (Str.ofString "MemoryError") 95) (@PySem.Value.type "MemoryError")), (@PySem.DictEntry.mk (@PySem.PyData.keyHash p (Str.ofString "NameError")) (@PySem.Value.str (Str.ofString "NameError") 96) (@PySem.Value.type "NameError")), (@PySem.DictEntry.mk (@PySem.PyData.keyHash p (Str.ofString "OSError")) (@PySem.Value.str (Str.ofString "OSError") 97) (@PySem.Value.type "OSError")), (@PySem.DictEntry.mk (@PySem.PyData.keyHash p (Str.ofString "ReferenceError")) (@PySem.Value.str (Str.ofString "ReferenceError") 98) (@PySem.Value.type "ReferenceError")), (@PySem.DictEntry.mk (@PySem.PyData.keyHash p (Str.ofString "RuntimeError")) (@PySem.Value.str (Str.ofString "RuntimeError") 99) (@PySem.Value.type "RuntimeError")), (@PySem.DictEntry.mk (@PySem.PyData.keyHash p (Str.ofString "StopAsyncIteration")) (@PySem.Value.str (Str.ofString "StopAsyncIteration") 100) (@PySem.Value.type "StopAsyncIteration")), (@PySem.DictEntry.mk (@PySem.PyData.keyHash p (Str.ofString "StopIteration")) (@PySem.Value.str (Str.ofString "StopIteration") 101) (@PySem.Value.type "StopIteration")), (@PySem.DictEntry.mk (@PySem.PyData.keyHash p (Str.ofString "SyntaxError")) (@PySem.Value.str (Str.ofString "SyntaxError") 102) (@PySem.Value.type "SyntaxError")), (@PySem.DictEntry.mk (@PySem.PyData.keyHash p (Str.ofString "SystemError")) (@PySem.Value.str (Str.ofString "SystemError") 103) (@PySem.Value.type "SystemError")), (@PySem.DictEntry.mk (@PySem.PyData.keyHash p (Str.ofString "TypeError")) (@PySem.Value.str (Str.ofString "TypeError") 104) (@PySem.Value.type "TypeError")), (@PySem.DictEntry.mk (@PySem.PyData.keyHash p (Str.ofString "ValueError")) (@PySem.Value.str (Str.ofString "ValueError") 105) (@PySem.Value.type "ValueError")), (@PySem.DictEntry.mk (@PySem.PyData.keyHash p (Str.ofString "Warning")) (@PySem.Value.str (Str.ofString "Warning") 106) (@PySem.Value.type "Warning")), (@PySem.DictEntry.mk (@PySem.PyData.keyHash p (Str.ofString "FloatingPointError")) (@PySem.Value.str (Str.ofString "FloatingPointError") 107) (@PySem.Value.type "FloatingPointError")), (@PySem.DictEntry.mk (@PySem.PyData.keyHash p (Str.ofString "OverflowError")) (@PySem.Value.str (Str.ofString "OverflowError") 108) (@PySem.Value.type "OverflowError")), (@PySem.DictEntry.mk (@PySem.PyData.keyHash p (Str.ofString "ZeroDivisionError")) (@PySem.Value.str (Str.ofString "ZeroDivisionError") 109) (@PySem.Value.type "ZeroDivisionError")), (@PySem.DictEntry.mk (@PySem.PyData.keyHash p (Str.ofString "BytesWarning")) (@PySem.Value.str (Str.ofString "BytesWarning") 110) (@PySem.Value.type "BytesWarning")), (@PySem.DictEntry.mk (@PySem.PyData.keyHash p (Str.ofString "DeprecationWarning")) (@PySem.Value.str (Str.ofString "DeprecationWarning") 111) (@PySem.Value.type "DeprecationWarning")), (@PySem.DictEntry.mk (@PySem.PyData.keyHash p (Str.ofString "EncodingWarning")) (@PySem.Value.str (Str.ofString "EncodingWarning") 112) (@PySem.Value.type "EncodingWarning")), (@PySem.DictEntry.mk (@PySem.PyData.keyHash p (Str.ofString "FutureWarning")) (@PySem.Value.str (Str.ofString "FutureWarning") 113) (@PySem.Value.type "FutureWarning")), (@PySem.DictEntry.mk (@PySem.PyData.keyHash p (Str.ofString "ImportWarning")) (@PySem.Value.str (Str.ofString "ImportWarning") 114) (@PySem.Value.type "ImportWarning")), (@PySem.DictEntry.mk (@PySem.PyData.keyHash p (Str.ofString "PendingDeprecationWarning")) (@PySem.Value.str (Str.ofString "PendingDeprecationWarning") 115) (@PySem.Value.type "PendingDeprecationWarning")), (@PySem.DictEntry.mk (@PySem.PyData.keyHash p (Str.ofString "ResourceWarning")) (@PySem.Value.str (Str.ofString "ResourceWarning") 116) (@PySem.Value.type "ResourceWarning")), (@PySem.DictEntry.mk (@PySem.PyData.keyHash p (Str.ofString "RuntimeWarning")) (@PySem.Value.str (Str.ofString "RuntimeWarning") 117) (@PySem.Value.type "RuntimeWarning")), (@PySem.DictEntry.mk (@PySem.PyData.keyHash p (Str.ofString "SyntaxWarning")) (@PySem.Value.str (Str.ofString "SyntaxWarning") 118) (@PySem.Value.type "SyntaxWarning")), (@PySem.DictEntry.mk (@PySem.PyData.keyHash p (Str.ofString "UnicodeWarning")) (@PySem.Value.str (Str.ofString "UnicodeWarning") 119) (@PySem.Value.type "UnicodeWarning")), (@PySem.DictEntry.mk (@PySem.PyData.keyHash p (Str.ofString "UserWarning")) (@PySem.Value.str (Str.ofString "UserWarning") 120) (@PySem.Value.type "UserWarning")), (@PySem.DictEntry.mk (@PySem.PyData.keyHash p (Str.ofString "BlockingIOError")) (@PySem.Value.str (Str.ofString "BlockingIOError") 121) (@PySem.Value.type "BlockingIOError")), (@PySem.DictEntry.mk (@PySem.PyData.keyHash p (Str.ofString "ChildProcessError")) (@PySem.Value.str (Str.ofString "ChildProcessError") 122) (@PySem.Value.type "ChildProcessError")), (@PySem.DictEntry.mk (@PySem.PyData.keyHash p (Str.ofString "ConnectionError")) (@PySem.Value.str (Str.ofString "ConnectionError") 123) (@PySem.Value.type "ConnectionError")), (@PySem.DictEntry.mk (@PySem.PyData.keyHash p (Str.ofString "FileExistsError")) (@PySem.Value.str (Str.ofString "FileExistsError") 124) (@PySem.Value.type "FileExistsError")), (@PySem.DictEntry.mk (@PySem.PyData.keyHash p (Str.ofString "FileNotFoundError")) (@PySem.Value.str (Str.ofString "FileNotFoundError") 125) (@PySem.Value.type "FileNotFoundError")), (@PySem.DictEntry.mk (@PySem.PyData.keyHash p (Str.ofString "InterruptedError")) (@PySem.Value.str (Str.ofString "InterruptedError") 126) (@PySem.Value.type "InterruptedError")), (@PySem.DictEntry.mk (@PySem.PyData.keyHash p (Str.ofString "IsADirectoryError")) (@PySem.Value.str (Str.ofString "IsADirectoryError") 127) (@PySem.Value.type "IsADirectoryError")), (@PySem.DictEntry.mk (@PySem.PyData.keyHash p (Str.ofString "NotADirectoryError")) (@PySem.Value.str (Str.ofString "NotADirectoryError") 128) (@PySem.Value.type "NotADirectoryError")), (@PySem.DictEntry.mk (@PySem.PyData.keyHash p (Str.ofString "PermissionError")) (@PySem.Value.str (Str.ofString "PermissionError") 129) (@PySem.Value.type "PermissionError")), (@PySem.DictEntry.mk (@PySem.PyData.keyHash p (Str.ofString "ProcessLookupError")) (@PySem.Value.str (Str.ofString "ProcessLookupError") 130) (@PySem.Value.type "ProcessLookupError")), (@PySem.DictEntry.mk (@PySem.PyData.keyHash p (Str.ofString "TimeoutError")) (@PySem.Value.str (Str.ofString "TimeoutError") 131) (@PySem.Value.type "TimeoutError")), (@PySem.DictEntry.mk (@PySem.PyData.keyHash p (Str.ofString "IndentationError")) (@PySem.Value.str (Str.ofString "IndentationError") 132) (@PySem.Value.type "IndentationError")), (@PySem.DictEntry.mk (@PySem.PyData.keyHash p (Str.ofString "_IncompleteInputError")) (@PySem.Value.str (Str.ofString "_IncompleteInputError") 133) (@PySem.Value.type "_IncompleteInputError")), (@PySem.DictEntry.mk (@PySem.PyData.keyHash p (Str.ofString "IndexError")) (@PySem.Value.str (Str.ofString "IndexError") 134) (@PySem.Value.type "IndexError")), (@PySem.DictEntry.mk (@PySem.PyData.keyHash p (Str.ofString "KeyError")) (@PySem.Value.str (Str.ofString "KeyError") 135) (@PySem.Value.type "KeyError")), (@PySem.DictEntry.mk (@PySem.PyData.keyHash p (Str.ofString "ModuleNotFoundError")) (@PySem.Value.str (Str.ofString "ModuleNotFoundError") 136) (@PySem.Value.type "ModuleNotFoundError")), (@PySem.DictEntry.mk (@PySem.PyData.keyHash p (Str.ofString "NotImplementedError")) (@PySem.Value.str (Str.ofString "NotImplementedError") 137) (@PySem.Value.type "NotImplementedError")), (@PySem.DictEntry.mk (@PySem.PyData.keyHash p (Str.ofString "PythonFinalizationError")) (@PySem.Value.str (Str.ofString "PythonFinalizationError") 138) (@PySem.Value.type "PythonFinalizationError")), (@PySem.DictEntry.mk (@PySem.PyData.keyHash p (Str.ofString "RecursionError")) (@PySem.Value.str (Str.ofString "RecursionError") 139) (@PySem.Value.type "RecursionError")), (@PySem.DictEntry.mk (@PySem.PyData.keyHash p (Str.ofString "UnboundLocalError")) (@PySem.Value.str (Str.ofString "UnboundLocalError") 140) (@PySem.Value.type "UnboundLocalError")), (@PySem.DictEntry.mk (@PySem.PyData.keyHash p (Str.ofString "UnicodeError")) (@PySem.Value.str (Str.ofString "UnicodeError") 141) (@PySem.Value.type "UnicodeError")), (@PySem.DictEntry.mk (@PySem.PyData.keyHash p (Str.ofString "BrokenPipeError")) (@PySem.Value.str (Str.ofString "BrokenPipeError") 142) (@PySem.Value.type "BrokenPipeError")), (@PySem.DictEntry.mk (@PySem.PyData.keyHash p (Str.ofString "ConnectionAbortedError")) (@PySem.Value.str (Str.ofString "ConnectionAbortedError") 143) (@PySem.Value.type "ConnectionAbortedError")), (@PySem.DictEntry.mk (@PySem.PyData.keyHash p (Str.ofString "ConnectionRefusedError")) (@PySem.Value.str (Str.ofString "ConnectionRefusedError") 144) (@PySem.Value.type "ConnectionRefusedError")), (@PySem.DictEntry.mk (@PySem.PyData.keyHash p (Str.ofString "ConnectionResetError")) (@PySem.Value.str (Str.ofString "ConnectionResetError") 145) (@PySem.Value.type "ConnectionResetError")), (@PySem.DictEntry.mk (@PySem.PyData.keyHash p (Str.ofString "TabError")) (@PySem.Value.str (Str.ofString "TabError") 146) (@PySem.Value.type "TabError")), (@PySem.DictEntry.mk (@PySem.PyData.keyHash p (Str.ofString "UnicodeDecodeError")) (@PySem.Value.str (Str.ofString "UnicodeDecodeError") 147) (@PySem.Value.type "UnicodeDecodeError")), (@PySem.DictEntry.mk (@PySem.PyData.keyHash p (Str.ofString "UnicodeEncodeError")) (@PySem.Value.str (Str.ofString "UnicodeEncodeError") 148) (@PySem.Value.type "UnicodeEncodeError")), (@PySem.DictEntry.mk (@PySem.PyData.keyHash p (Str.ofString "UnicodeTranslateError")) (@PySem.Value.str (Str.ofString "UnicodeTranslateError") 149) (@PySem.Value.type "UnicodeTranslateError")), (@PySem.DictEntry.mk (@PySem.PyData.keyHash p (Str.ofString "ExceptionGroup")) (@PySem.Value.str (Str.ofString "ExceptionGroup") 150) (@PySem.Value.type "ExceptionGroup")), (@PySem.DictEntry.mk (@PySem.PyData.keyHash p (Str.ofString "EnvironmentError")) (@PySem.Value.str (Str.ofString "EnvironmentError") 151) (@PySem.Value.type "OSError")), (@PySem.DictEntry.mk (@PySem.PyData.keyHash p (Str.ofString "IOError")) (@PySem.Value.str (Str.ofString "IOError") 152) (@PySem.Value.type "OSError")), (@PySem.DictEntry.mk (@PySem.PyData.keyHash p (Str.ofString "open")) (@PySem.Value.str (Str.ofString "open") 153) (@PySem.Value.builtin "open")), (@PySem.DictEntry.mk (@PySem.PyData.keyHash p (Str.ofString "quit")) (@PySem.Value.str (Str.ofString "quit") 154) (@PySem.Value.builtin "builtins.quit#opaque")), (@PySem.DictEntry.mk (@PySem.PyData.keyHash p (Str.ofString "exit")) (@PySem.Value.str (Str.ofString "exit") 155) (@PySem.Value.builtin "builtins.exit#opaque")), (@PySem.DictEntry.mk (@PySem.PyData.keyHash p (Str.ofString "copyright")) (@PySem.Value.str (Str.ofString "copyright") 156) (@PySem.Value.builtin "builtins.copyright#opaque")), (@PySem.DictEntry.mk (@PySem.PyData.keyHash p (Str.ofString "credits")) (@PySem.Value.str (Str.ofString "credits") 157) (@PySem.Value.builtin "builtins.credits#opaque")), (@PySem.DictEntry.mk (@PySem.PyData.keyHash p (Str.ofString "license")) (@PySem.Value.str (Str.ofString "license") 158) (@PySem.Value.builtin "builtins.license#opaque")), (@PySem.DictEntry.mk (@PySem.PyData.keyHash p (Str.ofString "help")) (@PySem.Value.str (Str.ofString "help") 159) (@PySem.Value.builtin "builtins.help#opaque"))]) 159) (List.toArray []))
noncomputable def ho_1 (p : Params) : Obj := (@PySem.Obj.mk (@PySem.Value.type "dict") none (@PySem.Data.dict (List.toArray [(@PySem.DictEntry.mk (@PySem.PyData.keyHash p (Str.ofString "builtins")) (@PySem.Value.str (Str.ofString "builtins") 162) (@PySem.Value.ref 4)), (@PySem.DictEntry.mk (@PySem.PyData.keyHash p (Str.ofString "__main__")) (@PySem.Value.str (Str.ofString "__main__") 163) (@PySem.Value.ref 5)), (@PySem.DictEntry.mk (@PySem.PyData.keyHash p (Str.ofString "_sre")) (@PySem.Value.str (Str.ofString "_sre") 244) (@PySem.Value.ref 12))]) 3) (List.toArray []))
noncomputable def ho_2 (p : Params) : Obj := (@PySem.Obj.mk @PySem.Value.none none (@PySem.Data.dict (List.toArray [(@PySem.DictEntry.mk (@PySem.PyData.keyHash p (Str.ofString "\x69mport.loaded._sre")) (@PySem.Value.str (Str.ofString "\x69mport.loaded._sre") 183) (@PySem.Value.bool @Bool.true)), (@PySem.DictEntry.mk (@PySem.PyData.keyHash p (Str.ofString "class._frozen_importlib.BuiltinImporter")) (@PySem.Value.str (Str.ofString "class._frozen_importlib.BuiltinImporter") 185) (@PySem.Value.ref 14)), (@PySem.DictEntry.mk (@PySem.PyData.keyHash p (Str.ofString "watched.\x69mport")) (@PySem.Value.str (Str.ofString "watched.\x69mport") 206) (@PySem.Value.ref 18)), (@PySem.DictEntry.mk (@PySem.PyData.keyHash p (Str.ofString "class._frozen_importlib.ModuleSpec")) (@PySem.Value.str (Str.ofString "class._frozen_importlib.ModuleSpec") 216) (@PySem.Value.ref 22)), (@PySem.DictEntry.mk (@PySem.PyData.keyHash p (Str.ofString "sys.modules.booked-epoch")) (@PySem.Value.str (Str.ofString "sys.modules.booked-epoch") 245) (@PySem.Value.int 3 0)), (@PySem.DictEntry.mk (@PySem.PyData.keyHash p (Str.ofString "\x69mport.later-laid._sre")) (@PySem.Value.str (Str.ofString "\x69mport.later-laid._sre") 270) (@PySem.Value.bool @Bool.true)), (@PySem.DictEntry.mk (@PySem.PyData.keyHash p (Str.ofString "watched.library")) (@PySem.Value.str (Str.ofString "watched.library") 272) (@PySem.Value.ref 27)), (@PySem.DictEntry.mk (@PySem.PyData.keyHash p (Str.ofString "watched.library-objects")) (@PySem.Value.str (Str.ofString "watched.library-objects") 0) (@PySem.Value.str (Str.ofString "\x0c") 0)), (@PySem.DictEntry.mk (@PySem.PyData.keyHash p (Str.ofString "watched.library-deep._sre")) (@PySem.Value.str (Str.ofString "watched.library-deep._sre") 273) (@PySem.Value.str (Str.ofString "\x04\x00\x00\x0b\x04\x00\x00\x0b\x04\x00\x00\x03\x04\x00\x00\x0b\x08\x04dict\x02") 0))]) 9) (List.toArray []))
noncomputable def ho_3 (p : Params) : Obj := (@PySem.Obj.mk (@PySem.Value.type "dict") none (@PySem.Data.dict (List.toArray [(@PySem.DictEntry.mk (@PySem.PyData.keyHash p (Str.ofString "__name__")) (@PySem.Value.str (Str.ofString "__name__") 165) (@PySem.Value.str (Str.ofString "__main__") 164)), (@PySem.DictEntry.mk (@PySem.PyData.keyHash p (Str.ofString "__doc__")) (@PySem.Value.str (Str.ofString "__doc__") 166) @PySem.Value.none), (@PySem.DictEntry.mk (@PySem.PyData.keyHash p (Str.ofString "__package__")) (@PySem.Value.str (Str.ofString "__package__") 167) @PySem.Value.none), (@PySem.DictEntry.mk (@PySem.PyData.keyHash p (Str.ofString "__loader__")) (@PySem.Value.str (Str.ofString "__loader__") 168) (@PySem.Value.builtin "__main__.__loader__#opaque")), (@PySem.DictEntry.mk (@PySem.PyData.keyHash p (Str.ofString "__spec__")) (@PySem.Value.str (Str.ofString "__spec__") 169) @PySem.Value.none), (@PySem.DictEntry.mk (@PySem.PyData.keyHash p (Str.ofString "__annotations__")) (@PySem.Value.str (Str.ofString "__annotations__") 170) (@PySem.Value.ref 6)), (@PySem.DictEntry.mk (@PySem.PyData.keyHash p (Str.ofString "__builtins__")) (@PySem.Value.str (Str.ofString "__builtins__") 171) (@PySem.Value.ref 4)), (@PySem.DictEntry.mk (@PySem.PyData.keyHash p (Str.ofString "__file__")) (@PySem.Value.str (Str.ofString "__file__") 173) (@PySem.Value.str (Str.ofString "/claim/cut.py") 172)), (@PySem.DictEntry.mk (@PySem.PyData.keyHash p (Str.ofString "__cached__")) (@PySem.Value.str (Str.ofString "__cached__") 174) @PySem.Value.none), (@PySem.DictEntry.mk (@PySem.PyData.keyHash p (Str.ofString "_sre")) (@PySem.Value.str (Str.ofString "_sre") 275) (@PySem.Value.ref 12))]) 10) (List.toArray []))
noncomputable def ho_4 (p : Params) : Obj := (@PySem.Obj.mk (@PySem.Value.type "module") (some 0) @PySem.Data.plain (List.toArray []))
noncomputable def ho_5 (p : Params) : Obj := (@PySem.Obj.mk (@PySem.Value.type "module") (some 3) @PySem.Data.plain (List.toArray []))
noncomputable def ho_6 (p : Params) : Obj := (@PySem.Obj.mk (@PySem.Value.type "dict") none (@PySem.Data.dict (List.toArray []) 0) (List.toArray []))
noncomputable def ho_7 (p : Params) : Obj := (@PySem.Obj.mk (@PySem.Value.type "tuple") none (@PySem.Data.seq (List.toArray []) 0) (List.toArray []))
noncomputable def ho_8 (p : Params) : Obj := (@PySem.Obj.mk @PySem.Value.none none (@PySem.Data.fields (List.toArray [])) (List.toArray []))
noncomputable def ho_9 (p : Params) : Obj := (@PySem.Obj.mk (@PySem.Value.type "code") none (@PySem.Data.fields (List.toArray [(@PySem.Value.str (Str.ofString "<module>") 176), (@PySem.Value.str (Str.ofString "<module>") 177), (@PySem.Value.str (Str.ofString "/claim/cut.py") 178), (@PySem.Value.int 1 0), (@PySem.Value.int 0 0), (@PySem.Value.int 0 0), (@PySem.Value.int 0 0), (@PySem.Value.int 0 0), (@PySem.Value.ref 7), (@PySem.Value.bool @Bool.false), (@PySem.Value.int 175 0), (@PySem.Value.ref 8), @PySem.Value.none, @PySem.Value.none, @PySem.Value.none, @PySem.Value.none, (@PySem.Value.int 179 0), (@PySem.Value.int 1 0), (@PySem.Value.str (Str.ofString "/claim/cut.py") 180)])) (List.toArray []))
noncomputable def ho_10 (p : Params) : Obj := (@PySem.Obj.mk (@PySem.Value.type "frame") none @PySem.Data.plain (List.toArray [(some (@PySem.Value.ref 9)), (some (@PySem.Value.ref 3)), (some (@PySem.Value.ref 3)), none, (some (@PySem.Value.str (Str.ofString "__main__") 164)), none, (some (@PySem.Value.ref 0))]))
noncomputable def ho_11 (p : Params) : Obj := (@PySem.Obj.mk (@PySem.Value.type "dict") none (@PySem.Data.dict (List.toArray [(@PySem.DictEntry.mk (@PySem.PyData.keyHash p (Str.ofString "__name__")) (@PySem.Value.str (Str.ofString "__name__") 247) (@PySem.Value.str (Str.ofString "_sre") 246)), (@PySem.DictEntry.mk (@PySem.PyData.keyHash p (Str.ofString "__doc__")) (@PySem.Value.str (Str.ofString "__doc__") 248) @PySem.Value.none), (@PySem.DictEntry.mk (@PySem.PyData.keyHash p (Str.ofString "__package__")) (@PySem.Value.str (Str.ofString "__package__") 250) (@PySem.Value.str (Str.ofString "") 249)), (@PySem.DictEntry.mk (@PySem.PyData.keyHash p (Str.ofString "__loader__")) (@PySem.Value.str (Str.ofString "__loader__") 251) (@PySem.Value.ref 14)), (@PySem.DictEntry.mk (@PySem.PyData.keyHash p (Str.ofString "__spec__")) (@PySem.Value.str (Str.ofString "__spec__") 252) (@PySem.Value.ref 26)), (@PySem.DictEntry.mk (@PySem.PyData.keyHash p (Str.ofString "compile")) (@PySem.Value.str (Str.ofString "compile") 253) (@PySem.Value.builtin "_sre.compile")), (@PySem.DictEntry.mk (@PySem.PyData.keyHash p (Str.ofString "template")) (@PySem.Value.str (Str.ofString "template") 254) (@PySem.Value.builtin "_sre.template")), (@PySem.DictEntry.mk (@PySem.PyData.keyHash p (Str.ofString "getcodesize")) (@PySem.Value.str (Str.ofString "getcodesize") 255) (@PySem.Value.builtin "_sre.getcodesize")), (@PySem.DictEntry.mk (@PySem.PyData.keyHash p (Str.ofString "ascii_iscased")) (@PySem.Value.str (Str.ofString "ascii_iscased") 256) (@PySem.Value.builtin "_sre.ascii_iscased")), (@PySem.DictEntry.mk (@PySem.PyData.keyHash p (Str.ofString "unicode_iscased")) (@PySem.Value.str (Str.ofString "unicode_iscased") 257) (@PySem.Value.builtin "_sre.unicode_iscased")), (@PySem.DictEntry.mk (@PySem.PyData.keyHash p (Str.ofString "ascii_tolower")) (@PySem.Value.str (Str.ofString "ascii_tolower") 258) (@PySem.Value.builtin "_sre.ascii_tolower")), (@PySem.DictEntry.mk (@PySem.PyData.keyHash p (Str.ofString "unicode_tolower")) (@PySem.Value.str (Str.ofString "unicode_tolower") 259) (@PySem.Value.builtin "_sre.unicode_tolower")), (@PySem.DictEntry.mk (@PySem.PyData.keyHash p (Str.ofString "MAGIC")) (@PySem.Value.str (Str.ofString "MAGIC") 261) (@PySem.Value.int 20230612 260)), (@PySem.DictEntry.mk (@PySem.PyData.keyHash p (Str.ofString "CODESIZE")) (@PySem.Value.str (Str.ofString "CODESIZE") 263) (@PySem.Value.int 4 262)), (@PySem.DictEntry.mk (@PySem.PyData.keyHash p (Str.ofString "MAXREPEAT")) (@PySem.Value.str (Str.ofString "MAXREPEAT") 265) (@PySem.Value.int 4294967295 264)), (@PySem.DictEntry.mk (@PySem.PyData.keyHash p (Str.ofString "MAXGROUPS")) (@PySem.Value.str (Str.ofString "MAXGROUPS") 267) (@PySem.Value.int 1073741823 266)), (@PySem.DictEntry.mk (@PySem.PyData.keyHash p (Str.ofString "copyright")) (@PySem.Value.str (Str.ofString "copyright") 269) (@PySem.Value.str (Str.ofString " SRE 2.2.2 Copyright (c) 1997-2002 by Secret Labs AB ") 268))]) 17) (List.toArray []))
noncomputable def ho_12 (p : Params) : Obj := (@PySem.Obj.mk (@PySem.Value.type "module") (some 11) @PySem.Data.plain (List.toArray []))
noncomputable def ho_13 (p : Params) : Obj := (@PySem.Obj.mk (@PySem.Value.type "dict") none (@PySem.Data.dict (List.toArray [(@PySem.DictEntry.mk (@PySem.PyData.keyHash p (Str.ofString "__module__")) (@PySem.Value.str (Str.ofString "__module__") 189) (@PySem.Value.str (Str.ofString "_frozen_importlib") 186)), (@PySem.DictEntry.mk (@PySem.PyData.keyHash p (Str.ofString "__firstlineno__")) (@PySem.Value.str (Str.ofString "__firstlineno__") 190) (@PySem.Value.int 971 187)), (@PySem.DictEntry.mk (@PySem.PyData.keyHash p (Str.ofString "__doc__")) (@PySem.Value.str (Str.ofString "__doc__") 191) (@PySem.Value.builtin "_frozen_importlib.BuiltinImporter.__doc__:str#opaque")), (@PySem.DictEntry.mk (@PySem.PyData.keyHash p (Str.ofString "_ORIGIN")) (@PySem.Value.str (Str.ofString "_ORIGIN") 192) (@PySem.Value.str (Str.ofString "built-in") 188)), (@PySem.DictEntry.mk (@PySem.PyData.keyHash p (Str.ofString "find_spec")) (@PySem.Value.str (Str.ofString "find_spec") 193) (@PySem.Value.builtin "_frozen_importlib.BuiltinImporter.find_spec#opaque")), (@PySem.DictEntry.mk (@PySem.PyData.keyHash p (Str.ofString "create_module")) (@PySem.Value.str (Str.ofString "create_module") 194) (@PySem.Value.builtin "_frozen_importlib.BuiltinImporter.create_module#opaque")), (@PySem.DictEntry.mk (@PySem.PyData.keyHash p (Str.ofString "exec_module")) (@PySem.Value.str (Str.ofString "exec_module") 195) (@PySem.Value.builtin "_frozen_importlib.BuiltinImporter.exec_module#opaque")), (@PySem.DictEntry.mk (@PySem.PyData.keyHash p (Str.ofString "get_code")) (@PySem.Value.str (Str.ofString "get_code") 196) (@PySem.Value.builtin "_frozen_importlib.BuiltinImporter.get_code#opaque")), (@PySem.DictEntry.mk (@PySem.PyData.keyHash p (Str.ofString "get_source")) (@PySem.Value.str (Str.ofString "get_source") 197) (@PySem.Value.builtin "_frozen_importlib.BuiltinImporter.get_source#opaque")), (@PySem.DictEntry.mk (@PySem.PyData.keyHash p (Str.ofString "is_package")) (@PySem.Value.str (Str.ofString "is_package") 198) (@PySem.Value.builtin "_frozen_importlib.BuiltinImporter.is_package#opaque")), (@PySem.DictEntry.mk (@PySem.PyData.keyHash p (Str.ofString "load_module")) (@PySem.Value.str (Str.ofString "load_module") 199) (@PySem.Value.builtin "_frozen_importlib.BuiltinImporter.load_module#opaque")), (@PySem.DictEntry.mk (@PySem.PyData.keyHash p (Str.ofString "__static_attributes__")) (@PySem.Value.str (Str.ofString "__static_attributes__") 200) (@PySem.Value.ref 15)), (@PySem.DictEntry.mk (@PySem.PyData.keyHash p (Str.ofString "__dict__")) (@PySem.Value.str (Str.ofString "__dict__") 202) (@PySem.Value.ref 16)), (@PySem.DictEntry.mk (@PySem.PyData.keyHash p (Str.ofString "__weakref__")) (@PySem.Value.str (Str.ofString "__weakref__") 204) (@PySem.Value.ref 17))]) 14) (List.toArray []))
noncomputable def ho_14 (p : Params) : Obj := (@PySem.Obj.mk (@PySem.Value.type "type") none (@PySem.Data.cls (@PySem.ClassData.mk (Str.ofString "BuiltinImporter") [(@PySem.Value.type "object")] [(@PySem.Value.ref 14), (@PySem.Value.type "object")] 13 (Str.ofString "BuiltinImporter") @Bool.true [] [] @Bool.false none @Bool.false)) (List.toArray []))
noncomputable def ho_15 (p : Params) : Obj := (@PySem.Obj.mk (@PySem.Value.type "tuple") none (@PySem.Data.seq (List.toArray []) 0) (List.toArray []))
noncomputable def ho_16 (p : Params) : Obj := (@PySem.Obj.mk (@PySem.Value.type "getset_descriptor") none (@PySem.Data.fields (List.toArray [(@PySem.Value.str (Str.ofString "__dict__") 201), (@PySem.Value.ref 14), (@PySem.Value.builtin "function.__dict__"), (@PySem.Value.builtin "function.__dict__#set")])) (List.toArray []))
noncomputable def ho_17 (p : Params) : Obj := (@PySem.Obj.mk (@PySem.Value.type "getset_descriptor") none (@PySem.Data.fields (List.toArray [(@PySem.Value.str (Str.ofString "__weakref__") 203), (@PySem.Value.ref 14), (@PySem.Value.builtin "ExceptionGroup.__weakref__"), @PySem.Value.none])) (List.toArray []))
noncomputable def ho_18 (p : Params) : Obj := (@PySem.Obj.mk @PySem.Value.none none (@PySem.Data.seq (List.toArray [(@PySem.Value.int 13 0), (@PySem.Value.str (Str.ofString "\x06½\n__module__\x06º\x11_frozen_importlib\x06¾\x0f__firstlineno__\x04»\x00ϋ\x06¿\x07__doc__\t4_frozen_importlib.BuiltinImporter.__doc__:str#opaque\x06À\x07_ORIGIN\x06¼\x08built-in\x06Á\tfind_spec\t2_frozen_importlib.BuiltinImporter.find_spec#opaque\x06Â\x0dcreate_module\t6_frozen_importlib.BuiltinImporter.create_module#opaque\x06Ã\x0bexec_module\t4_frozen_importlib.BuiltinImporter.exec_module#opaque\x06Ä\x08get_code\t1_frozen_importlib.BuiltinImporter.get_code#opaque\x06Å\nget_source\t3_frozen_importlib.BuiltinImporter.get_source#opaque\x06Æ\nis_package\t3_frozen_importlib.BuiltinImporter.is_package#opaque\x06Ç\x0bload_module\t4_frozen_importlib.BuiltinImporter.load_module#opaque\x06È\x15__static_attributes__\x04\x00\x00\x0f\x06Ê\x08__dict__\x04\x00\x00\x10\x06Ì\x0b__weakref__\x04\x00\x00\x11") 0), (@PySem.Value.bool @Bool.true), (@PySem.Value.bool @Bool.true), (@PySem.Value.str (Str.ofString "") 205), (@PySem.Value.int 21 0), (@PySem.Value.str (Str.ofString "\x06ã\n__module__\x06Ù\x11_frozen_importlib\x06ä\x0f__firstlineno__\x04Ú\x00Ȳ\x06å\x07__doc__\t/_frozen_importlib.ModuleSpec.__doc__:str#opaque\x06æ\x08__init__\t,_frozen_importlib.ModuleSpec.__init__#opaque\x06ç\x08__repr__\t,_frozen_importlib.ModuleSpec.__repr__#opaque\x06è\x06__eq__\t*_frozen_importlib.ModuleSpec.__eq__#opaque\x06é\x06cached\t*_frozen_importlib.ModuleSpec.cached#opaque\x06ê\x06parent\t*_frozen_importlib.ModuleSpec.parent#opaque\x06ë\x0chas_location\t0_frozen_importlib.ModuleSpec.has_location#opaque\x06ì\x15__static_attributes__\x04\x00\x00\x17\x06î\x08__dict__\x04\x00\x00\x18\x06ð\x0b__weakref__\x04\x00\x00\x19\x06ñ\x08__hash__\x00") 0), (@PySem.Value.bool @Bool.true), (@PySem.Value.bool @Bool.true), (@PySem.Value.str (Str.ofString "") 242)]) 1) (List.toArray []))
noncomputable def ho_19 (p : Params) : Obj := (@PySem.Obj.mk (@PySem.Value.type "list") none (@PySem.Data.seq (List.toArray []) 0) (List.toArray []))
noncomputable def ho_20 (p : Params) : Obj := (@PySem.Obj.mk (@PySem.Value.type "dict") none (@PySem.Data.dict (List.toArray [(@PySem.DictEntry.mk (@PySem.PyData.keyHash p (Str.ofString "name")) (@PySem.Value.str (Str.ofString "name") 208) (@PySem.Value.str (Str.ofString "_sre") 207)), (@PySem.DictEntry.mk (@PySem.PyData.keyHash p (Str.ofString "loader")) (@PySem.Value.str (Str.ofString "loader") 209) (@PySem.Value.ref 14)), (@PySem.DictEntry.mk (@PySem.PyData.keyHash p (Str.ofString "origin")) (@PySem.Value.str (Str.ofString "origin") 210) (@PySem.Value.str (Str.ofString "built-in") 184)), (@PySem.DictEntry.mk (@PySem.PyData.keyHash p (Str.ofString "loader_state")) (@PySem.Value.str (Str.ofString "loader_state") 211) @PySem.Value.none), (@PySem.DictEntry.mk (@PySem.PyData.keyHash p (Str.ofString "submodule_search_locations")) (@PySem.Value.str (Str.ofString "submodule_search_locations") 212) @PySem.Value.none), (@PySem.DictEntry.mk (@PySem.PyData.keyHash p (Str.ofString "_uninitialized_submodules")) (@PySem.Value.str (Str.ofString "_uninitialized_submodules") 213) (@PySem.Value.ref 19)), (@PySem.DictEntry.mk (@PySem.PyData.keyHash p (Str.ofString "_set_fileattr")) (@PySem.Value.str (Str.ofString "_set_fileattr") 214) (@PySem.Value.bool @Bool.false)), (@PySem.DictEntry.mk (@PySem.PyData.keyHash p (Str.ofString "_cached")) (@PySem.Value.str (Str.ofString "_cached") 215) @PySem.Value.none), (@PySem.DictEntry.mk (@PySem.PyData.keyHash p (Str.ofString "_initializing")) (@PySem.Value.str (Str.ofString "_initializing") 243) (@PySem.Value.bool @Bool.false))]) 9) (List.toArray []))
noncomputable def ho_21 (p : Params) : Obj := (@PySem.Obj.mk (@PySem.Value.type "dict") none (@PySem.Data.dict (List.toArray [(@PySem.DictEntry.mk (@PySem.PyData.keyHash p (Str.ofString "__module__")) (@PySem.Value.str (Str.ofString "__module__") 227) (@PySem.Value.str (Str.ofString "_frozen_importlib") 217)), (@PySem.DictEntry.mk (@PySem.PyData.keyHash p (Str.ofString "__firstlineno__")) (@PySem.Value.str (Str.ofString "__firstlineno__") 228) (@PySem.Value.int 562 218)), (@PySem.DictEntry.mk (@PySem.PyData.keyHash p (Str.ofString "__doc__")) (@PySem.Value.str (Str.ofString "__doc__") 229) (@PySem.Value.builtin "_frozen_importlib.ModuleSpec.__doc__:str#opaque")), (@PySem.DictEntry.mk (@PySem.PyData.keyHash p (Str.ofString "__init__")) (@PySem.Value.str (Str.ofString "__init__") 230) (@PySem.Value.builtin "_frozen_importlib.ModuleSpec.__init__#opaque")), (@PySem.DictEntry.mk (@PySem.PyData.keyHash p (Str.ofString "__repr__")) (@PySem.Value.str (Str.ofString "__repr__") 231) (@PySem.Value.builtin "_frozen_importlib.ModuleSpec.__repr__#opaque")), (@PySem.DictEntry.mk (@PySem.PyData.keyHash p (Str.ofString "__eq__")) (@PySem.Value.str (Str.ofString "__eq__") 232) (@PySem.Value.builtin "_frozen_importlib.ModuleSpec.__eq__#opaque")), (@PySem.DictEntry.mk (@PySem.PyData.keyHash p (Str.ofString "cached")) (@PySem.Value.str (Str.ofString "cached") 233) (@PySem.Value.builtin "_frozen_importlib.ModuleSpec.cached#opaque")), (@PySem.DictEntry.mk (@PySem.PyData.keyHash p (Str.ofString "parent")) (@PySem.Value.str (Str.ofString "parent") 234) (@PySem.Value.builtin "_frozen_importlib.ModuleSpec.parent#opaque")), (@PySem.DictEntry.mk (@PySem.PyData.keyHash p (Str.ofString "has_location")) (@PySem.Value.str (Str.ofString "has_location") 235) (@PySem.Value.builtin "_frozen_importlib.ModuleSpec.has_location#opaque")), (@PySem.DictEntry.mk (@PySem.PyData.keyHash p (Str.ofString "__static_attributes__")) (@PySem.Value.str (Str.ofString "__static_attributes__") 236) (@PySem.Value.ref 23)), (@PySem.DictEntry.mk (@PySem.PyData.keyHash p (Str.ofString "__dict__")) (@PySem.Value.str (Str.ofString "__dict__") 238) (@PySem.Value.ref 24)), (@PySem.DictEntry.mk (@PySem.PyData.keyHash p (Str.ofString "__weakref__")) (@PySem.Value.str (Str.ofString "__weakref__") 240) (@PySem.Value.ref 25)), (@PySem.DictEntry.mk (@PySem.PyData.keyHash p (Str.ofString "__hash__")) (@PySem.Value.str (Str.ofString "__hash__") 241) @PySem.Value.none)]) 13) (List.toArray []))
noncomputable def ho_22 (p : Params) : Obj := (@PySem.Obj.mk (@PySem.Value.type "type") none (@PySem.Data.cls (@PySem.ClassData.mk (Str.ofString "ModuleSpec") [(@PySem.Value.type "object")] [(@PySem.Value.ref 22), (@PySem.Value.type "object")] 21 (Str.ofString "ModuleSpec") @Bool.true [] [] @Bool.false none @Bool.false)) (List.toArray []))
noncomputable def ho_23 (p : Params) : Obj := (@PySem.Obj.mk (@PySem.Value.type "tuple") none (@PySem.Data.seq (List.toArray [(@PySem.Value.str (Str.ofString "_cached") 219), (@PySem.Value.str (Str.ofString "_set_fileattr") 220), (@PySem.Value.str (Str.ofString "_uninitialized_submodules") 221), (@PySem.Value.str (Str.ofString "loader") 222), (@PySem.Value.str (Str.ofString "loader_state") 223), (@PySem.Value.str (Str.ofString "name") 224), (@PySem.Value.str (Str.ofString "origin") 225), (@PySem.Value.str (Str.ofString "submodule_search_locations") 226)]) 0) (List.toArray []))
noncomputable def ho_24 (p : Params) : Obj := (@PySem.Obj.mk (@PySem.Value.type "getset_descriptor") none (@PySem.Data.fields (List.toArray [(@PySem.Value.str (Str.ofString "__dict__") 237), (@PySem.Value.ref 22), (@PySem.Value.builtin "function.__dict__"), (@PySem.Value.builtin "function.__dict__#set")])) (List.toArray []))
noncomputable def ho_25 (p : Params) : Obj := (@PySem.Obj.mk (@PySem.Value.type "getset_descriptor") none (@PySem.Data.fields (List.toArray [(@PySem.Value.str (Str.ofString "__weakref__") 239), (@PySem.Value.ref 22), (@PySem.Value.builtin "ExceptionGroup.__weakref__"), @PySem.Value.none])) (List.toArray []))
noncomputable def ho_26 (p : Params) : Obj := (@PySem.Obj.mk (@PySem.Value.ref 22) (some 20) @PySem.Data.plain (List.toArray []))
noncomputable def ho_27 (p : Params) : Obj := (@PySem.Obj.mk @PySem.Value.none none (@PySem.Data.seq (List.toArray [(@PySem.Value.int 11 0), (@PySem.Value.str (@PySem.Str.mk (List.toArray [6, 247, 8, 95, 95, 110, 97, 109, 101, 95, 95, 6, 246, 4, 95, 115, 114, 101, 6, 248, 7, 95, 95, 100, 111, 99, 95, 95, 0, 6, 250, 11, 95, 95, 112, 97, 99, 107, 97, 103, 101, 95, 95, 6, 249, 0, 6, 251, 10, 95, 95, 108, 111, 97, 100, 101, 114, 95, 95, 4, 0, 0, 14, 6, 252, 8, 95, 95, 115, 112, 101, 99, 95, 95, 4, 0, 0, 26, 6, 253, 7, 99, 111, 109, 112, 105, 108, 101, 9, 12, 95, 115, 114, 101, 46, 99, 111, 109, 112, 105, 108, 101, 6, 254, 8, 116, 101, 109, 112, 108, 97, 116, 101, 9, 13, 95, 115, 114, 101, 46, 116, 101, 109, 112, 108, 97, 116, 101, 6, 255, 11, 103, 101, 116, 99, 111, 100, 101, 115, 105, 122, 101, 9, 16, 95, 115, 114, 101, 46, 103, 101, 116, 99, 111, 100, 101, 115, 105, 122, 101, 6, 256, 13, 97, 115, 99, 105, 105, 95, 105, 115, 99, 97, 115, 101, 100, 9, 18, 95, 115, 114, 101, 46, 97, 115, 99, 105, 105, 95, 105, 115, 99, 97, 115, 101, 100, 6, 257, 15, 117, 110, 105, 99, 111, 100, 101, 95, 105, 115, 99, 97, 115, 101, 100, 9, 20, 95, 115, 114, 101, 46, 117, 110, 105, 99, 111, 100, 101, 95, 105, 115, 99, 97, 115, 101, 100, 6, 258, 13, 97, 115, 99, 105, 105, 95, 116, 111, 108, 111, 119, 101, 114, 9, 18, 95, 115, 114, 101, 46, 97, 115, 99, 105, 105, 95, 116, 111, 108, 111, 119, 101, 114, 6, 259, 15, 117, 110, 105, 99, 111, 100, 101, 95, 116, 111, 108, 111, 119, 101, 114, 9, 20, 95, 115, 114, 101, 46, 117, 110, 105, 99, 111, 100, 101, 95, 116, 111, 108, 111, 119, 101, 114, 6, 261, 5, 77, 65, 71, 73, 67, 4, 260, 0, 20230612, 6, 263, 8, 67, 79, 68, 69, 83, 73, 90, 69, 4, 262, 0, 4, 6, 265, 9, 77, 65, 88, 82, 69, 80, 69, 65, 84, 4, 264, 0, 4294967295, 6, 267, 9, 77, 65, 88, 71, 82, 79, 85, 80, 83, 4, 266, 0, 1073741823, 6, 269, 9, 99, 111, 112, 121, 114, 105, 103, 104, 116, 6, 268, 53, 32, 83, 82, 69, 32, 50, 46, 50, 46, 50, 32, 67, 111, 112, 121, 114, 105, 103, 104, 116, 32, 40, 99, 41, 32, 49, 57, 57, 55, 45, 50, 48, 48, 50, 32, 98, 121, 32, 83, 101, 99, 114, 101, 116, 32, 76, 97, 98, 115, 32, 65, 66, 32])) 0), (@PySem.Value.bool @Bool.true), (@PySem.Value.bool @Bool.false), (@PySem.Value.str (Str.ofString "_sre") 271)]) 0) (List.toArray []))
noncomputable def hi_tree (p : Params) : BT := (.node (ho_0 p) (.node (ho_1 p) (.node (ho_3 p) (.node (ho_7 p) (.node (ho_15 p) .nil .nil) (.node (ho_23 p) .nil .nil)) (.node (ho_11 p) (.node (ho_19 p) .nil .nil) (.node (ho_27 p) .nil .nil))) (.node (ho_5 p) (.node (ho_9 p) (.node (ho_17 p) .nil .nil) (.node (ho_25 p) .nil .nil)) (.node (ho_13 p) (.node (ho_21 p) .nil .nil) .nil))) (.node (ho_2 p) (.node (ho_4 p) (.node (ho_8 p) (.node (ho_16 p) .nil .nil) (.node (ho_24 p) .nil .nil)) (.node (ho_12 p) (.node (ho_20 p) .nil .nil) .nil)) (.node (ho_6 p) (.node (ho_10 p) (.node (ho_18 p) .nil .nil) (.node (ho_26 p) .nil .nil)) (.node (ho_14 p) (.node (ho_22 p) .nil .nil) .nil))))
noncomputable def hi (w : World) (os : OsState) : SharedT := ⟨hi_tree w.params, 28, lifeH, #[], drawnH, 276, os⟩
noncomputable def ho_11_1 (p : Params) : Obj := (@PySem.Obj.mk (@PySem.Value.type "dict") none (@PySem.Data.dict (List.toArray [(@PySem.DictEntry.mk (@PySem.PyData.keyHash p (Str.ofString "__name__")) (@PySem.Value.str (Str.ofString "__name__") 247) (@PySem.Value.str (Str.ofString "_sre") 246)), (@PySem.DictEntry.mk (@PySem.PyData.keyHash p (Str.ofString "__doc__")) (@PySem.Value.str (Str.ofString "__doc__") 248) @PySem.Value.none), (@PySem.DictEntry.mk (@PySem.PyData.keyHash p (Str.ofString "__package__")) (@PySem.Value.str (Str.ofString "__package__") 250) (@PySem.Value.str (Str.ofString "") 249)), (@PySem.DictEntry.mk (@PySem.PyData.keyHash p (Str.ofString "__loader__")) (@PySem.Value.str (Str.ofString "__loader__") 251) (@PySem.Value.builtin "off-the-table:_sre.__loader__:shared#opaque")), (@PySem.DictEntry.mk (@PySem.PyData.keyHash p (Str.ofString "__spec__")) (@PySem.Value.str (Str.ofString "__spec__") 252) (@PySem.Value.builtin "off-the-table:_sre.__spec__:shared#opaque")), (@PySem.DictEntry.mk (@PySem.PyData.keyHash p (Str.ofString "compile")) (@PySem.Value.str (Str.ofString "compile") 253) (@PySem.Value.builtin "_sre.compile")), (@PySem.DictEntry.mk (@PySem.PyData.keyHash p (Str.ofString "template")) (@PySem.Value.str (Str.ofString "template") 254) (@PySem.Value.builtin "off-the-table:_sre.template:shared#opaque")), (@PySem.DictEntry.mk (@PySem.PyData.keyHash p (Str.ofString "getcodesize")) (@PySem.Value.str (Str.ofString "getcodesize") 255) (@PySem.Value.builtin "off-the-table:_sre.getcodesize:shared#opaque")), (@PySem.DictEntry.mk (@PySem.PyData.keyHash p (Str.ofString "ascii_iscased")) (@PySem.Value.str (Str.ofString "ascii_iscased") 256) (@PySem.Value.builtin "off-the-table:_sre.ascii_iscased:shared#opaque")), (@PySem.DictEntry.mk (@PySem.PyData.keyHash p (Str.ofString "unicode_iscased")) (@PySem.Value.str (Str.ofString "unicode_iscased") 257) (@PySem.Value.builtin "off-the-table:_sre.unicode_iscased:shared#opaque")), (@PySem.DictEntry.mk (@PySem.PyData.keyHash p (Str.ofString "ascii_tolower")) (@PySem.Value.str (Str.ofString "ascii_tolower") 258) (@PySem.Value.builtin "off-the-table:_sre.ascii_tolower:shared#opaque")), (@PySem.DictEntry.mk (@PySem.PyData.keyHash p (Str.ofString "unicode_tolower")) (@PySem.Value.str (Str.ofString "unicode_tolower") 259) (@PySem.Value.builtin "off-the-table:_sre.unicode_tolower:shared#opaque")), (@PySem.DictEntry.mk (@PySem.PyData.keyHash p (Str.ofString "MAGIC")) (@PySem.Value.str (Str.ofString "MAGIC") 261) (@PySem.Value.int 20230612 260)), (@PySem.DictEntry.mk (@PySem.PyData.keyHash p (Str.ofString "CODESIZE")) (@PySem.Value.str (Str.ofString "CODESIZE") 263) (@PySem.Value.int 4 262)), (@PySem.DictEntry.mk (@PySem.PyData.keyHash p (Str.ofString "MAXREPEAT")) (@PySem.Value.str (Str.ofString "MAXREPEAT") 265) (@PySem.Value.int 4294967295 264)), (@PySem.DictEntry.mk (@PySem.PyData.keyHash p (Str.ofString "MAXGROUPS")) (@PySem.Value.str (Str.ofString "MAXGROUPS") 267) (@PySem.Value.int 1073741823 266)), (@PySem.DictEntry.mk (@PySem.PyData.keyHash p (Str.ofString "copyright")) (@PySem.Value.str (Str.ofString "copyright") 269) (@PySem.Value.str (Str.ofString " SRE 2.2.2 Copyright (c) 1997-2002 by Secret Labs AB ") 268))]) 17) (List.toArray []))
noncomputable def h0_tree (p : Params) : BT := (.node (ho_0 p) (.node (ho_1 p) (.node (ho_3 p) (.node (ho_7 p) (.node (ho_15 p) .nil .nil) (.node (ho_23 p) .nil .nil)) (.node (ho_11_1 p) (.node (ho_19 p) .nil .nil) (.node (ho_27 p) .nil .nil))) (.node (ho_5 p) (.node (ho_9 p) (.node (ho_17 p) .nil .nil) (.node (ho_25 p) .nil .nil)) (.node (ho_13 p) (.node (ho_21 p) .nil .nil) .nil))) (.node (ho_2 p) (.node (ho_4 p) (.node (ho_8 p) (.node (ho_16 p) .nil .nil) (.node (ho_24 p) .nil .nil)) (.node (ho_12 p) (.node (ho_20 p) .nil .nil) .nil)) (.node (ho_6 p) (.node (ho_10 p) (.node (ho_18 p) .nil .nil) (.node (ho_26 p) .nil .nil)) (.node (ho_14 p) (.node (ho_22 p) .nil .nil) .nil))))
noncomputable def h0 (w : World) (os : OsState) : SharedT := ⟨h0_tree w.params, 28, lifeH, #[], drawnH, 276, os⟩
noncomputable def ho_28 (p : Params) : Obj := (@PySem.Obj.mk (@PySem.Value.type "tuple") none (@PySem.Data.seq (List.toArray []) 0) (List.toArray []))
noncomputable def ho_29 (p : Params) : Obj := (@PySem.Obj.mk @PySem.Value.none none (@PySem.Data.fields (List.toArray [])) (List.toArray []))
noncomputable def ho_30 (p : Params) : Obj := (@PySem.Obj.mk (@PySem.Value.type "code") none (@PySem.Data.fields (List.toArray [(@PySem.Value.str (Str.ofString "<module>") 277), (@PySem.Value.str (Str.ofString "<module>") 278), (@PySem.Value.str (Str.ofString "/claim/cut.py") 279), (@PySem.Value.int 1 0), (@PySem.Value.int 0 0), (@PySem.Value.int 0 0), (@PySem.Value.int 0 0), (@PySem.Value.int 0 0), (@PySem.Value.ref 28), (@PySem.Value.bool @Bool.false), (@PySem.Value.int 276 0), (@PySem.Value.ref 29), @PySem.Value.none, @PySem.Value.none, @PySem.Value.none, @PySem.Value.none, (@PySem.Value.int 280 0), (@PySem.Value.int 1 0), (@PySem.Value.str (Str.ofString "/claim/cut.py") 281)])) (List.toArray []))
noncomputable def ho_31 (p : Params) : Obj := (@PySem.Obj.mk (@PySem.Value.type "frame") none @PySem.Data.plain (List.toArray [(some (@PySem.Value.ref 30)), (some (@PySem.Value.ref 3)), (some (@PySem.Value.ref 3)), none, (some (@PySem.Value.str (Str.ofString "__main__") 164)), none, (some (@PySem.Value.ref 0))]))
noncomputable def ha_tree (p : Params) : BT := (.node (ho_0 p) (.node (ho_1 p) (.node (ho_3 p) (.node (ho_7 p) (.node (ho_15 p) (.node (ho_31 p) .nil .nil) .nil) (.node (ho_23 p) .nil .nil)) (.node (ho_11_1 p) (.node (ho_19 p) .nil .nil) (.node (ho_27 p) .nil .nil))) (.node (ho_5 p) (.node (ho_9 p) (.node (ho_17 p) .nil .nil) (.node (ho_25 p) .nil .nil)) (.node (ho_13 p) (.node (ho_21 p) .nil .nil) (.node (ho_29 p) .nil .nil)))) (.node (ho_2 p) (.node (ho_4 p) (.node (ho_8 p) (.node (ho_16 p) .nil .nil) (.node (ho_24 p) .nil .nil)) (.node (ho_12 p) (.node (ho_20 p) .nil .nil) (.node (ho_28 p) .nil .nil))) (.node (ho_6 p) (.node (ho_10 p) (.node (ho_18 p) .nil .nil) (.node (ho_26 p) .nil .nil)) (.node (ho_14 p) (.node (ho_22 p) .nil .nil) (.node (ho_30 p) .nil .nil)))))
noncomputable def ha (w : World) (os : OsState) : SharedT := ⟨ha_tree w.params, 32, lifeH, #[], drawnH, 282, os⟩
noncomputable def hb_tree (p : Params) : BT := (.node (ho_0 p) (.node (ho_1 p) (.node (ho_3 p) (.node (ho_7 p) (.node (ho_15 p) (.node (ho_31 p) .nil .nil) .nil) (.node (ho_23 p) .nil .nil)) (.node (ho_11_1 p) (.node (ho_19 p) .nil .nil) (.node (ho_27 p) .nil .nil))) (.node (ho_5 p) (.node (ho_9 p) (.node (ho_17 p) .nil .nil) (.node (ho_25 p) .nil .nil)) (.node (ho_13 p) (.node (ho_21 p) .nil .nil) (.node (ho_29 p) .nil .nil)))) (.node (ho_2 p) (.node (ho_4 p) (.node (ho_8 p) (.node (ho_16 p) .nil .nil) (.node (ho_24 p) .nil .nil)) (.node (ho_12 p) (.node (ho_20 p) .nil .nil) (.node (ho_28 p) .nil .nil))) (.node (ho_6 p) (.node (ho_10 p) (.node (ho_18 p) .nil .nil) (.node (ho_26 p) .nil .nil)) (.node (ho_14 p) (.node (ho_22 p) .nil .nil) (.node (ho_30 p) .nil .nil)))))
noncomputable def hb (w : World) (os : OsState) : SharedT := ⟨hb_tree w.params, 32, lifeH, #[], drawnH, 282, os⟩
noncomputable def ho_3_1 (p : Params) : Obj := (@PySem.Obj.mk (@PySem.Value.type "dict") none (@PySem.Data.dict (List.toArray [(@PySem.DictEntry.mk (@PySem.PyData.keyHash p (Str.ofString "__name__")) (@PySem.Value.str (Str.ofString "__name__") 165) (@PySem.Value.str (Str.ofString "cpy313.stringprep") 347)), (@PySem.DictEntry.mk (@PySem.PyData.keyHash p (Str.ofString "__doc__")) (@PySem.Value.str (Str.ofString "__doc__") 166) @PySem.Value.none), (@PySem.DictEntry.mk (@PySem.PyData.keyHash p (Str.ofString "__package__")) (@PySem.Value.str (Str.ofString "__package__") 167) @PySem.Value.none), (@PySem.DictEntry.mk (@PySem.PyData.keyHash p (Str.ofString "__loader__")) (@PySem.Value.str (Str.ofString "__loader__") 168) (@PySem.Value.builtin "__main__.__loader__#opaque")), (@PySem.DictEntry.mk (@PySem.PyData.keyHash p (Str.ofString "__spec__")) (@PySem.Value.str (Str.ofString "__spec__") 169) @PySem.Value.none), (@PySem.DictEntry.mk (@PySem.PyData.keyHash p (Str.ofString "__annotations__")) (@PySem.Value.str (Str.ofString "__annotations__") 170) (@PySem.Value.ref 6)), (@PySem.DictEntry.mk (@PySem.PyData.keyHash p (Str.ofString "__builtins__")) (@PySem.Value.str (Str.ofString "__builtins__") 171) (@PySem.Value.ref 4)), (@PySem.DictEntry.mk (@PySem.PyData.keyHash p (Str.ofString "__file__")) (@PySem.Value.str (Str.ofString "__file__") 173) (@PySem.Value.str (Str.ofString "/claim/cut.py") 172)), (@PySem.DictEntry.mk (@PySem.PyData.keyHash p (Str.ofString "__cached__")) (@PySem.Value.str (Str.ofString "__cached__") 174) @PySem.Value.none), (@PySem.DictEntry.mk (@PySem.PyData.keyHash p (Str.ofString "_sre")) (@PySem.Value.str (Str.ofString "_sre") 275) (@PySem.Value.ref 12)), (@PySem.DictEntry.mk (@PySem.PyData.keyHash p (Str.ofString "_twin_re_1")) (@PySem.Value.str (Str.ofString "_twin_re_1") 325) (@PySem.Value.ref 36)), (@PySem.DictEntry.mk (@PySem.PyData.keyHash p (Str.ofString "CRLF")) (@PySem.Value.str (Str.ofString "CRLF") 327) (@PySem.Value.str (Str.ofString "\x0d\n") 326)), (@PySem.DictEntry.mk (@PySem.PyData.keyHash p (Str.ofString "_fix_eols")) (@PySem.Value.str (Str.ofString "_fix_eols") 334) (@PySem.Value.ref 43)), (@PySem.DictEntry.mk (@PySem.PyData.keyHash p (Str.ofString "Int2AP")) (@PySem.Value.str (Str.ofString "Int2AP") 346) (@PySem.Value.ref 50))]) 14) (List.toArray []))
noncomputable def ho_29_1 (p : Params) : Obj := (@PySem.Obj.mk @PySem.Value.none none (@PySem.Data.fields (List.toArray [(@PySem.Value.int 5 0), (@PySem.Value.int 0 0), (@PySem.Value.ref 42), (@PySem.Value.int 8 0), (@PySem.Value.int 0 0), (@PySem.Value.ref 49)])) (List.toArray []))
noncomputable def ho_32 (p : Params) : Obj := (@PySem.Obj.mk (@PySem.Value.type "list") none (@PySem.Data.seq (List.toArray [(@PySem.Value.int 14 287), (@PySem.Value.int 9 288), (@PySem.Value.int 4 289), (@PySem.Value.int 1 290), (@PySem.Value.int 2 291), (@PySem.Value.int 16 292), (@PySem.Value.int 10 293), (@PySem.Value.int 16 294), (@PySem.Value.int 13 295), (@PySem.Value.int 0 296), (@PySem.Value.int 7 297), (@PySem.Value.int 7 298), (@PySem.Value.int 16 299), (@PySem.Value.int 13 300), (@PySem.Value.int 16 301), (@PySem.Value.int 10 302), (@PySem.Value.int 15 303), (@PySem.Value.int 18 304), (@PySem.Value.int 5 305), (@PySem.Value.int 16 306), (@PySem.Value.int 10 307), (@PySem.Value.int 15 308), (@PySem.Value.int 13 309), (@PySem.Value.int 11 310), (@PySem.Value.int 16 311), (@PySem.Value.int 13 312), (@PySem.Value.int 5 313), (@PySem.Value.int 5 314), (@PySem.Value.int 0 315), (@PySem.Value.int 16 316), (@PySem.Value.int 10 317), (@PySem.Value.int 1 318), (@PySem.Value.int 15 319), (@PySem.Value.int 2 320), (@PySem.Value.int 0 321), (@PySem.Value.int 1 322)]) 0) (List.toArray []))
noncomputable def ho_33 (p : Params) : Obj := (@PySem.Obj.mk (@PySem.Value.type "dict") none (@PySem.Data.dict (List.toArray []) 0) (List.toArray []))
noncomputable def ho_34 (p : Params) : Obj := (@PySem.Obj.mk (@PySem.Value.type "tuple") none (@PySem.Data.seq (List.toArray [@PySem.Value.none]) 0) (List.toArray []))
noncomputable def ho_35 (p : Params) : Obj := (@PySem.Obj.mk (@PySem.Value.type "tuple") none (@PySem.Data.seq (List.toArray [(@PySem.Value.int 14 0), (@PySem.Value.int 9 0), (@PySem.Value.int 4 0), (@PySem.Value.int 1 0), (@PySem.Value.int 2 0), (@PySem.Value.int 16 0), (@PySem.Value.int 10 0), (@PySem.Value.int 16 0), (@PySem.Value.int 13 0), (@PySem.Value.int 0 0), (@PySem.Value.int 7 0), (@PySem.Value.int 7 0), (@PySem.Value.int 16 0), (@PySem.Value.int 13 0), (@PySem.Value.int 16 0), (@PySem.Value.int 10 0), (@PySem.Value.int 15 0), (@PySem.Value.int 18 0), (@PySem.Value.int 5 0), (@PySem.Value.int 16 0), (@PySem.Value.int 10 0), (@PySem.Value.int 15 0), (@PySem.Value.int 13 0), (@PySem.Value.int 11 0), (@PySem.Value.int 16 0), (@PySem.Value.int 13 0), (@PySem.Value.int 5 0), (@PySem.Value.int 5 0), (@PySem.Value.int 0 0), (@PySem.Value.int 16 0), (@PySem.Value.int 10 0), (@PySem.Value.int 1 0), (@PySem.Value.int 15 0), (@PySem.Value.int 2 0), (@PySem.Value.int 0 0), (@PySem.Value.int 1 0)]) 0) (List.toArray []))
noncomputable def ho_36 (p : Params) : Obj := (@PySem.Obj.mk (@PySem.Value.type "re.Pattern") none (@PySem.Data.fields (List.toArray [(@PySem.Value.str (Str.ofString "(?:\\r\\n|\\n|\\r(?!\\n))") 285), (@PySem.Value.int 32 324), (@PySem.Value.int 0 0), @PySem.Value.none, @PySem.Value.none, (@PySem.Value.ref 35), (@PySem.Value.int 0 0)])) (List.toArray []))
noncomputable def ho_37 (p : Params) : Obj := (@PySem.Obj.mk (@PySem.Value.type "tuple") none (@PySem.Data.seq (List.toArray []) 0) (List.toArray []))
noncomputable def ho_38 (p : Params) : Obj := (@PySem.Obj.mk @PySem.Value.none none (@PySem.Data.fields (List.toArray [])) (List.toArray []))
noncomputable def ho_39 (p : Params) : Obj := (@PySem.Obj.mk (@PySem.Value.type "tuple") none (@PySem.Data.seq (List.toArray [(@PySem.Value.str (Str.ofString "data") 331)]) 0) (List.toArray []))
noncomputable def ho_40 (p : Params) : Obj := (@PySem.Obj.mk (@PySem.Value.type "tuple") none (@PySem.Data.seq (List.toArray []) 0) (List.toArray []))
noncomputable def ho_41 (p : Params) : Obj := (@PySem.Obj.mk @PySem.Value.none none (@PySem.Data.func (FuncData.mk (Str.ofString "_fix_eols") (Str.ofString "_fix_eols") P_fix (.stmts B_fix) S_fix 0 [] @PySem.Value.none @PySem.Value.none @PySem.Value.none @PySem.Value.none none @PySem.Value.none @PySem.Value.none 0)) (List.toArray []))
noncomputable def ho_42 (p : Params) : Obj := (@PySem.Obj.mk (@PySem.Value.type "code") none (@PySem.Data.fields (List.toArray [(@PySem.Value.str (Str.ofString "_fix_eols") 328), (@PySem.Value.str (Str.ofString "_fix_eols") 329), (@PySem.Value.str (Str.ofString "/claim/cut.py") 330), (@PySem.Value.int 5 0), (@PySem.Value.int 1 0), (@PySem.Value.int 0 0), (@PySem.Value.int 0 0), (@PySem.Value.int 3 0), (@PySem.Value.ref 37), (@PySem.Value.bool @Bool.true), (@PySem.Value.int 276 0), (@PySem.Value.ref 38), @PySem.Value.none, (@PySem.Value.ref 39), (@PySem.Value.ref 40), (@PySem.Value.ref 41), (@PySem.Value.int 332 0), (@PySem.Value.int 5 0), (@PySem.Value.str (Str.ofString "/claim/cut.py") 333)])) (List.toArray []))
noncomputable def ho_43 (p : Params) : Obj := (@PySem.Obj.mk (@PySem.Value.type "function") none (@PySem.Data.func (FuncData.mk (Str.ofString "_fix_eols") (Str.ofString "_fix_eols") P_fix (.stmts B_fix) S_fix 3 [] @PySem.Value.none @PySem.Value.none @PySem.Value.none (@PySem.Value.str (Str.ofString "cpy313.smtplib") 282) none (@PySem.Value.ref 42) @PySem.Value.none 0)) (List.toArray []))
noncomputable def ho_44 (p : Params) : Obj := (@PySem.Obj.mk (@PySem.Value.type "tuple") none (@PySem.Data.seq (List.toArray []) 0) (List.toArray []))
noncomputable def ho_45 (p : Params) : Obj := (@PySem.Obj.mk @PySem.Value.none none (@PySem.Data.fields (List.toArray [])) (List.toArray []))
noncomputable def ho_46 (p : Params) : Obj := (@PySem.Obj.mk (@PySem.Value.type "tuple") none (@PySem.Data.seq (List.toArray [(@PySem.Value.str (Str.ofString "num") 340), (@PySem.Value.str (Str.ofString "val") 341), (@PySem.Value.str (Str.ofString "AP") 342), (@PySem.Value.str (Str.ofString "mod") 343)]) 0) (List.toArray []))
noncomputable def ho_47 (p : Params) : Obj := (@PySem.Obj.mk (@PySem.Value.type "tuple") none (@PySem.Data.seq (List.toArray []) 0) (List.toArray []))
noncomputable def ho_48 (p : Params) : Obj := (@PySem.Obj.mk @PySem.Value.none none (@PySem.Data.func (FuncData.mk (Str.ofString "Int2AP") (Str.ofString "Int2AP") P_int2 (.stmts B_int2) S_int2 0 [] @PySem.Value.none @PySem.Value.none @PySem.Value.none @PySem.Value.none none @PySem.Value.none @PySem.Value.none 0)) (List.toArray []))
noncomputable def ho_49 (p : Params) : Obj := (@PySem.Obj.mk (@PySem.Value.type "code") none (@PySem.Data.fields (List.toArray [(@PySem.Value.str (Str.ofString "Int2AP") 337), (@PySem.Value.str (Str.ofString "Int2AP") 338), (@PySem.Value.str (Str.ofString "/claim/cut.py") 339), (@PySem.Value.int 8 0), (@PySem.Value.int 1 0), (@PySem.Value.int 0 0), (@PySem.Value.int 0 0), (@PySem.Value.int 3 0), (@PySem.Value.ref 44), (@PySem.Value.bool @Bool.true), (@PySem.Value.int 276 0), (@PySem.Value.ref 45), @PySem.Value.none, (@PySem.Value.ref 46), (@PySem.Value.ref 47), (@PySem.Value.ref 48), (@PySem.Value.int 344 0), (@PySem.Value.int 8 0), (@PySem.Value.str (Str.ofString "/claim/cut.py") 345)])) (List.toArray []))
noncomputable def ho_50 (p : Params) : Obj := (@PySem.Obj.mk (@PySem.Value.type "function") none (@PySem.Data.func (FuncData.mk (Str.ofString "Int2AP") (Str.ofString "Int2AP") P_int2 (.stmts B_int2) S_int2 3 [] @PySem.Value.none @PySem.Value.none @PySem.Value.none (@PySem.Value.str (Str.ofString "cpy313.imaplib") 335) none (@PySem.Value.ref 49) @PySem.Value.none 0)) (List.toArray []))
noncomputable def h7_tree (p : Params) : BT := (.node (ho_0 p) (.node (ho_1 p) (.node (ho_3_1 p) (.node (ho_7 p) (.node (ho_15 p) (.node (ho_31 p) .nil .nil) (.node (ho_47 p) .nil .nil)) (.node (ho_23 p) (.node (ho_39 p) .nil .nil) .nil)) (.node (ho_11_1 p) (.node (ho_19 p) (.node (ho_35 p) .nil .nil) .nil) (.node (ho_27 p) (.node (ho_43 p) .nil .nil) .nil))) (.node (ho_5 p) (.node (ho_9 p) (.node (ho_17 p) (.node (ho_33 p) .nil .nil) (.node (ho_49 p) .nil .nil)) (.node (ho_25 p) (.node (ho_41 p) .nil .nil) .nil)) (.node (ho_13 p) (.node (ho_21 p) (.node (ho_37 p) .nil .nil) .nil) (.node (ho_29_1 p) (.node (ho_45 p) .nil .nil) .nil)))) (.node (ho_2 p) (.node (ho_4 p) (.node (ho_8 p) (.node (ho_16 p) (.node (ho_32 p) .nil .nil) (.node (ho_48 p) .nil .nil)) (.node (ho_24 p) (.node (ho_40 p) .nil .nil) .nil)) (.node (ho_12 p) (.node (ho_20 p) (.node (ho_36 p) .nil .nil) .nil) (.node (ho_28 p) (.node (ho_44 p) .nil .nil) .nil))) (.node (ho_6 p) (.node (ho_10 p) (.node (ho_18 p) (.node (ho_34 p) .nil .nil) (.node (ho_50 p) .nil .nil)) (.node (ho_26 p) (.node (ho_42 p) .nil .nil) .nil)) (.node (ho_14 p) (.node (ho_22 p) (.node (ho_38 p) .nil .nil) .nil) (.node (ho_30 p) (.node (ho_46 p) .nil .nil) .nil)))))
noncomputable def h7 (w : World) (os : OsState) : SharedT := ⟨h7_tree w.params, 51, lifeH, #[], drawnH, 349, os⟩
noncomputable def ho_3_2 (p : Params) : Obj := (@PySem.Obj.mk (@PySem.Value.type "dict") none (@PySem.Data.dict (List.toArray [(@PySem.DictEntry.mk (@PySem.PyData.keyHash p (Str.ofString "__name__")) (@PySem.Value.str (Str.ofString "__name__") 165) (@PySem.Value.str (Str.ofString "cpy313.stringprep") 347)), (@PySem.DictEntry.mk (@PySem.PyData.keyHash p (Str.ofString "__doc__")) (@PySem.Value.str (Str.ofString "__doc__") 166) @PySem.Value.none), (@PySem.DictEntry.mk (@PySem.PyData.keyHash p (Str.ofString "__package__")) (@PySem.Value.str (Str.ofString "__package__") 167) @PySem.Value.none), (@PySem.DictEntry.mk (@PySem.PyData.keyHash p (Str.ofString "__loader__")) (@PySem.Value.str (Str.ofString "__loader__") 168) (@PySem.Value.builtin "__main__.__loader__#opaque")), (@PySem.DictEntry.mk (@PySem.PyData.keyHash p (Str.ofString "__spec__")) (@PySem.Value.str (Str.ofString "__spec__") 169) @PySem.Value.none), (@PySem.DictEntry.mk (@PySem.PyData.keyHash p (Str.ofString "__annotations__")) (@PySem.Value.str (Str.ofString "__annotations__") 170) (@PySem.Value.ref 6)), (@PySem.DictEntry.mk (@PySem.PyData.keyHash p (Str.ofString "__builtins__")) (@PySem.Value.str (Str.ofString "__builtins__") 171) (@PySem.Value.ref 4)), (@PySem.DictEntry.mk (@PySem.PyData.keyHash p (Str.ofString "__file__")) (@PySem.Value.str (Str.ofString "__file__") 173) (@PySem.Value.str (Str.ofString "/claim/cut.py") 172)), (@PySem.DictEntry.mk (@PySem.PyData.keyHash p (Str.ofString "__cached__")) (@PySem.Value.str (Str.ofString "__cached__") 174) @PySem.Value.none), (@PySem.DictEntry.mk (@PySem.PyData.keyHash p (Str.ofString "_sre")) (@PySem.Value.str (Str.ofString "_sre") 275) (@PySem.Value.ref 12)), (@PySem.DictEntry.mk (@PySem.PyData.keyHash p (Str.ofString "_twin_re_1")) (@PySem.Value.str (Str.ofString "_twin_re_1") 325) (@PySem.Value.ref 36)), (@PySem.DictEntry.mk (@PySem.PyData.keyHash p (Str.ofString "CRLF")) (@PySem.Value.str (Str.ofString "CRLF") 327) (@PySem.Value.str (Str.ofString "\x0d\n") 326)), (@PySem.DictEntry.mk (@PySem.PyData.keyHash p (Str.ofString "_fix_eols")) (@PySem.Value.str (Str.ofString "_fix_eols") 334) (@PySem.Value.ref 43)), (@PySem.DictEntry.mk (@PySem.PyData.keyHash p (Str.ofString "Int2AP")) (@PySem.Value.str (Str.ofString "Int2AP") 346) (@PySem.Value.ref 50)), (@PySem.DictEntry.mk (@PySem.PyData.keyHash p (Str.ofString "b3_exceptions")) (@PySem.Value.str (Str.ofString "b3_exceptions") 2299) (@PySem.Value.ref 51))]) 15) (List.toArray []))
noncomputable def h8d_tree (p : Params) : BT := (.node (ho_0 p) (.node (ho_1 p) (.node (ho_3_1 p) (.node (ho_7 p) (.node (ho_15 p) (.node (ho_31 p) (.node (sD 12) .nil .nil) .nil) (.node (ho_47 p) (.node (sD 28) .nil .nil) .nil)) (.node (ho_23 p) (.node (ho_39 p) (.node (sD 20) .nil .nil) .nil) (.node (sD 4) (.node (sD 36) .nil .nil) .nil))) (.node (ho_11_1 p) (.node (ho_19 p) (.node (ho_35 p) (.node (sD 16) .nil .nil) .nil) (.node (sD 0) (.node (sD 32) .nil .nil) .nil)) (.node (ho_27 p) (.node (ho_43 p) (.node (sD 24) .nil .nil) .nil) (.node (sD 8) .nil .nil)))) (.node (ho_5 p) (.node (ho_9 p) (.node (ho_17 p) (.node (ho_33 p) (.node (sD 14) .nil .nil) .nil) (.node (ho_49 p) (.node (sD 30) .nil .nil) .nil)) (.node (ho_25 p) (.node (ho_41 p) (.node (sD 22) .nil .nil) .nil) (.node (sD 6) (.node (sD 38) .nil .nil) .nil))) (.node (ho_13 p) (.node (ho_21 p) (.node (ho_37 p) (.node (sD 18) .nil .nil) .nil) (.node (sD 2) (.node (sD 34) .nil .nil) .nil)) (.node (ho_29_1 p) (.node (ho_45 p) (.node (sD 26) .nil .nil) .nil) (.node (sD 10) .nil .nil))))) (.node (ho_2 p) (.node (ho_4 p) (.node (ho_8 p) (.node (ho_16 p) (.node (ho_32 p) (.node (sD 13) .nil .nil) .nil) (.node (ho_48 p) (.node (sD 29) .nil .nil) .nil)) (.node (ho_24 p) (.node (ho_40 p) (.node (sD 21) .nil .nil) .nil) (.node (sD 5) (.node (sD 37) .nil .nil) .nil))) (.node (ho_12 p) (.node (ho_20 p) (.node (ho_36 p) (.node (sD 17) .nil .nil) .nil) (.node (sD 1) (.node (sD 33) .nil .nil) .nil)) (.node (ho_28 p) (.node (ho_44 p) (.node (sD 25) .nil .nil) .nil) (.node (sD 9) .nil .nil)))) (.node (ho_6 p) (.node (ho_10 p) (.node (ho_18 p) (.node (ho_34 p) (.node (sD 15) .nil .nil) .nil) (.node (ho_50 p) (.node (sD 31) .nil .nil) .nil)) (.node (ho_26 p) (.node (ho_42 p) (.node (sD 23) .nil .nil) .nil) (.node (sD 7) .nil .nil))) (.node (ho_14 p) (.node (ho_22 p) (.node (ho_38 p) (.node (sD 19) .nil .nil) .nil) (.node (sD 3) (.node (sD 35) .nil .nil) .nil)) (.node (ho_30 p) (.node (ho_46 p) (.node (sD 27) .nil .nil) .nil) (.node (sD 11) .nil .nil))))))
noncomputable def h8_tree (p : Params) : BT := (.node (ho_0 p) (.node (ho_1 p) (.node (ho_3_2 p) (.node (ho_7 p) (.node (ho_15 p) (.node (ho_31 p) (.node (sD 12) .nil .nil) .nil) (.node (ho_47 p) (.node (sD 28) .nil .nil) .nil)) (.node (ho_23 p) (.node (ho_39 p) (.node (sD 20) .nil .nil) .nil) (.node (sD 4) (.node (sD 36) .nil .nil) .nil))) (.node (ho_11_1 p) (.node (ho_19 p) (.node (ho_35 p) (.node (sD 16) .nil .nil) .nil) (.node (sD 0) (.node (sD 32) .nil .nil) .nil)) (.node (ho_27 p) (.node (ho_43 p) (.node (sD 24) .nil .nil) .nil) (.node (sD 8) .nil .nil)))) (.node (ho_5 p) (.node (ho_9 p) (.node (ho_17 p) (.node (ho_33 p) (.node (sD 14) .nil .nil) .nil) (.node (ho_49 p) (.node (sD 30) .nil .nil) .nil)) (.node (ho_25 p) (.node (ho_41 p) (.node (sD 22) .nil .nil) .nil) (.node (sD 6) (.node (sD 38) .nil .nil) .nil))) (.node (ho_13 p) (.node (ho_21 p) (.node (ho_37 p) (.node (sD 18) .nil .nil) .nil) (.node (sD 2) (.node (sD 34) .nil .nil) .nil)) (.node (ho_29_1 p) (.node (ho_45 p) (.node (sD 26) .nil .nil) .nil) (.node (sD 10) .nil .nil))))) (.node (ho_2 p) (.node (ho_4 p) (.node (ho_8 p) (.node (ho_16 p) (.node (ho_32 p) (.node (sD 13) .nil .nil) .nil) (.node (ho_48 p) (.node (sD 29) .nil .nil) .nil)) (.node (ho_24 p) (.node (ho_40 p) (.node (sD 21) .nil .nil) .nil) (.node (sD 5) (.node (sD 37) .nil .nil) .nil))) (.node (ho_12 p) (.node (ho_20 p) (.node (ho_36 p) (.node (sD 17) .nil .nil) .nil) (.node (sD 1) (.node (sD 33) .nil .nil) .nil)) (.node (ho_28 p) (.node (ho_44 p) (.node (sD 25) .nil .nil) .nil) (.node (sD 9) .nil .nil)))) (.node (ho_6 p) (.node (ho_10 p) (.node (ho_18 p) (.node (ho_34 p) (.node (sD 15) .nil .nil) .nil) (.node (ho_50 p) (.node (sD 31) .nil .nil) .nil)) (.node (ho_26 p) (.node (ho_42 p) (.node (sD 23) .nil .nil) .nil) (.node (sD 7) .nil .nil))) (.node (ho_14 p) (.node (ho_22 p) (.node (ho_38 p) (.node (sD 19) .nil .nil) .nil) (.node (sD 3) (.node (sD 35) .nil .nil) .nil)) (.node (ho_30 p) (.node (ho_46 p) (.node (sD 27) .nil .nil) .nil) (.node (sD 11) .nil .nil))))))
noncomputable def h8 (w : World) (os : OsState) : SharedT := ⟨h8_tree w.params, 90, lifeH, #[], drawnH, 2300, os⟩
noncomputable def ho_3_3 (p : Params) : Obj := (@PySem.Obj.mk (@PySem.Value.type "dict") none (@PySem.Data.dict (List.toArray [(@PySem.DictEntry.mk (@PySem.PyData.keyHash p (Str.ofString "__name__")) (@PySem.Value.str (Str.ofString "__name__") 165) (@PySem.Value.str (Str.ofString "law_ta0025_01") 2308)), (@PySem.DictEntry.mk (@PySem.PyData.keyHash p (Str.ofString "__doc__")) (@PySem.Value.str (Str.ofString "__doc__") 166) @PySem.Value.none), (@PySem.DictEntry.mk (@PySem.PyData.keyHash p (Str.ofString "__package__")) (@PySem.Value.str (Str.ofString "__package__") 167) @PySem.Value.none), (@PySem.DictEntry.mk (@PySem.PyData.keyHash p (Str.ofString "__loader__")) (@PySem.Value.str (Str.ofString "__loader__") 168) (@PySem.Value.builtin "__main__.__loader__#opaque")), (@PySem.DictEntry.mk (@PySem.PyData.keyHash p (Str.ofString "__spec__")) (@PySem.Value.str (Str.ofString "__spec__") 169) @PySem.Value.none), (@PySem.DictEntry.mk (@PySem.PyData.keyHash p (Str.ofString "__annotations__")) (@PySem.Value.str (Str.ofString "__annotations__") 170) (@PySem.Value.ref 6)), (@PySem.DictEntry.mk (@PySem.PyData.keyHash p (Str.ofString "__builtins__")) (@PySem.Value.str (Str.ofString "__builtins__") 171) (@PySem.Value.ref 4)), (@PySem.DictEntry.mk (@PySem.PyData.keyHash p (Str.ofString "__file__")) (@PySem.Value.str (Str.ofString "__file__") 173) (@PySem.Value.str (Str.ofString "/claim/cut.py") 172)), (@PySem.DictEntry.mk (@PySem.PyData.keyHash p (Str.ofString "__cached__")) (@PySem.Value.str (Str.ofString "__cached__") 174) @PySem.Value.none), (@PySem.DictEntry.mk (@PySem.PyData.keyHash p (Str.ofString "_sre")) (@PySem.Value.str (Str.ofString "_sre") 275) (@PySem.Value.ref 12)), (@PySem.DictEntry.mk (@PySem.PyData.keyHash p (Str.ofString "_twin_re_1")) (@PySem.Value.str (Str.ofString "_twin_re_1") 325) (@PySem.Value.ref 36)), (@PySem.DictEntry.mk (@PySem.PyData.keyHash p (Str.ofString "CRLF")) (@PySem.Value.str (Str.ofString "CRLF") 327) (@PySem.Value.str (Str.ofString "\x0d\n") 326)), (@PySem.DictEntry.mk (@PySem.PyData.keyHash p (Str.ofString "_fix_eols")) (@PySem.Value.str (Str.ofString "_fix_eols") 334) (@PySem.Value.ref 43)), (@PySem.DictEntry.mk (@PySem.PyData.keyHash p (Str.ofString "Int2AP")) (@PySem.Value.str (Str.ofString "Int2AP") 346) (@PySem.Value.ref 50)), (@PySem.DictEntry.mk (@PySem.PyData.keyHash p (Str.ofString "b3_exceptions")) (@PySem.Value.str (Str.ofString "b3_exceptions") 2299) (@PySem.Value.ref 51)), (@PySem.DictEntry.mk (@PySem.PyData.keyHash p (Str.ofString "map_table_b3")) (@PySem.Value.str (Str.ofString "map_table_b3") 2307) (@PySem.Value.ref 96)), (@PySem.DictEntry.mk (@PySem.PyData.keyHash p (Str.ofString "_law_fibonacci")) (@PySem.Value.str (Str.ofString "_law_fibonacci") 2317) (@PySem.Value.ref 103)), (@PySem.DictEntry.mk (@PySem.PyData.keyHash p (Str.ofString "_law_spelled")) (@PySem.Value.str (Str.ofString "_law_spelled") 2328) (@PySem.Value.ref 110)), (@PySem.DictEntry.mk (@PySem.PyData.keyHash p (Str.ofString "_law_by_folds")) (@PySem.Value.str (Str.ofString "_law_by_folds") 2334) (@PySem.Value.ref 115)), (@PySem.DictEntry.mk (@PySem.PyData.keyHash p (Str.ofString "_law_by_lengths")) (@PySem.Value.str (Str.ofString "_law_by_lengths") 2340) (@PySem.Value.ref 120)), (@PySem.DictEntry.mk (@PySem.PyData.keyHash p (Str.ofString "_law_product")) (@PySem.Value.str (Str.ofString "_law_product") 2346) (@PySem.Value.ref 125)), (@PySem.DictEntry.mk (@PySem.PyData.keyHash p (Str.ofString "law")) (@PySem.Value.str (Str.ofString "law") 2352) (@PySem.Value.ref 130))]) 22) (List.toArray []))
noncomputable def ho_29_2 (p : Params) : Obj := (@PySem.Obj.mk @PySem.Value.none none (@PySem.Data.fields (List.toArray [(@PySem.Value.int 5 0), (@PySem.Value.int 0 0), (@PySem.Value.ref 42), (@PySem.Value.int 8 0), (@PySem.Value.int 0 0), (@PySem.Value.ref 49), (@PySem.Value.int 18 0), (@PySem.Value.int 0 0), (@PySem.Value.ref 95), (@PySem.Value.int 24 0), (@PySem.Value.int 0 0), (@PySem.Value.ref 102), (@PySem.Value.int 29 0), (@PySem.Value.int 0 0), (@PySem.Value.ref 109), (@PySem.Value.int 35 0), (@PySem.Value.int 0 0), (@PySem.Value.ref 114), (@PySem.Value.int 44 0), (@PySem.Value.int 0 0), (@PySem.Value.ref 119), (@PySem.Value.int 52 0), (@PySem.Value.int 0 0), (@PySem.Value.ref 124), (@PySem.Value.int 76 0), (@PySem.Value.int 0 0), (@PySem.Value.ref 129)])) (List.toArray []))
noncomputable def ho_90 (p : Params) : Obj := (@PySem.Obj.mk (@PySem.Value.type "tuple") none (@PySem.Data.seq (List.toArray []) 0) (List.toArray []))
noncomputable def ho_91 (p : Params) : Obj := (@PySem.Obj.mk @PySem.Value.none none (@PySem.Data.fields (List.toArray [])) (List.toArray []))
noncomputable def ho_92 (p : Params) : Obj := (@PySem.Obj.mk (@PySem.Value.type "tuple") none (@PySem.Data.seq (List.toArray [(@PySem.Value.str (Str.ofString "code") 2303), (@PySem.Value.str (Str.ofString "r") 2304)]) 0) (List.toArray []))
noncomputable def ho_93 (p : Params) : Obj := (@PySem.Obj.mk (@PySem.Value.type "tuple") none (@PySem.Data.seq (List.toArray []) 0) (List.toArray []))
noncomputable def ho_94 (p : Params) : Obj := (@PySem.Obj.mk @PySem.Value.none none (@PySem.Data.func (FuncData.mk (Str.ofString "map_table_b3") (Str.ofString "map_table_b3") P_b3 (.stmts B_b3) S_b3 0 [] @PySem.Value.none @PySem.Value.none @PySem.Value.none @PySem.Value.none none @PySem.Value.none @PySem.Value.none 0)) (List.toArray []))
noncomputable def ho_95 (p : Params) : Obj := (@PySem.Obj.mk (@PySem.Value.type "code") none (@PySem.Data.fields (List.toArray [(@PySem.Value.str (Str.ofString "map_table_b3") 2300), (@PySem.Value.str (Str.ofString "map_table_b3") 2301), (@PySem.Value.str (Str.ofString "/claim/cut.py") 2302), (@PySem.Value.int 18 0), (@PySem.Value.int 1 0), (@PySem.Value.int 0 0), (@PySem.Value.int 0 0), (@PySem.Value.int 3 0), (@PySem.Value.ref 90), (@PySem.Value.bool @Bool.true), (@PySem.Value.int 276 0), (@PySem.Value.ref 91), @PySem.Value.none, (@PySem.Value.ref 92), (@PySem.Value.ref 93), (@PySem.Value.ref 94), (@PySem.Value.int 2305 0), (@PySem.Value.int 18 0), (@PySem.Value.str (Str.ofString "/claim/cut.py") 2306)])) (List.toArray []))
noncomputable def ho_96 (p : Params) : Obj := (@PySem.Obj.mk (@PySem.Value.type "function") none (@PySem.Data.func (FuncData.mk (Str.ofString "map_table_b3") (Str.ofString "map_table_b3") P_b3 (.stmts B_b3) S_b3 3 [] @PySem.Value.none @PySem.Value.none @PySem.Value.none (@PySem.Value.str (Str.ofString "cpy313.stringprep") 347) none (@PySem.Value.ref 95) @PySem.Value.none 0)) (List.toArray []))
noncomputable def ho_97 (p : Params) : Obj := (@PySem.Obj.mk (@PySem.Value.type "tuple") none (@PySem.Data.seq (List.toArray []) 0) (List.toArray []))
noncomputable def ho_98 (p : Params) : Obj := (@PySem.Obj.mk @PySem.Value.none none (@PySem.Data.fields (List.toArray [])) (List.toArray []))
noncomputable def ho_99 (p : Params) : Obj := (@PySem.Obj.mk (@PySem.Value.type "tuple") none (@PySem.Data.seq (List.toArray [(@PySem.Value.str (Str.ofString "numbers") 2313), (@PySem.Value.str (Str.ofString "_") 2314)]) 0) (List.toArray []))
noncomputable def ho_100 (p : Params) : Obj := (@PySem.Obj.mk (@PySem.Value.type "tuple") none (@PySem.Data.seq (List.toArray []) 0) (List.toArray []))
noncomputable def ho_101 (p : Params) : Obj := (@PySem.Obj.mk @PySem.Value.none none (@PySem.Data.func (FuncData.mk (Str.ofString "_law_fibonacci") (Str.ofString "_law_fibonacci") P_fib (.stmts B_fib) S_fib 0 [] @PySem.Value.none @PySem.Value.none @PySem.Value.none @PySem.Value.none none @PySem.Value.none @PySem.Value.none 0)) (List.toArray []))
noncomputable def ho_102 (p : Params) : Obj := (@PySem.Obj.mk (@PySem.Value.type "code") none (@PySem.Data.fields (List.toArray [(@PySem.Value.str (Str.ofString "_law_fibonacci") 2310), (@PySem.Value.str (Str.ofString "_law_fibonacci") 2311), (@PySem.Value.str (Str.ofString "/claim/cut.py") 2312), (@PySem.Value.int 24 0), (@PySem.Value.int 0 0), (@PySem.Value.int 0 0), (@PySem.Value.int 0 0), (@PySem.Value.int 3 0), (@PySem.Value.ref 97), (@PySem.Value.bool @Bool.true), (@PySem.Value.int 276 0), (@PySem.Value.ref 98), @PySem.Value.none, (@PySem.Value.ref 99), (@PySem.Value.ref 100), (@PySem.Value.ref 101), (@PySem.Value.int 2315 0), (@PySem.Value.int 24 0), (@PySem.Value.str (Str.ofString "/claim/cut.py") 2316)])) (List.toArray []))
noncomputable def ho_103 (p : Params) : Obj := (@PySem.Obj.mk (@PySem.Value.type "function") none (@PySem.Data.func (FuncData.mk (Str.ofString "_law_fibonacci") (Str.ofString "_law_fibonacci") P_fib (.stmts B_fib) S_fib 3 [] @PySem.Value.none @PySem.Value.none @PySem.Value.none (@PySem.Value.str (Str.ofString "law_ta0025_01") 2308) none (@PySem.Value.ref 102) @PySem.Value.none 0)) (List.toArray []))
noncomputable def ho_104 (p : Params) : Obj := (@PySem.Obj.mk (@PySem.Value.type "tuple") none (@PySem.Data.seq (List.toArray []) 0) (List.toArray []))
noncomputable def ho_105 (p : Params) : Obj := (@PySem.Obj.mk @PySem.Value.none none (@PySem.Data.fields (List.toArray [])) (List.toArray []))
noncomputable def ho_106 (p : Params) : Obj := (@PySem.Obj.mk (@PySem.Value.type "tuple") none (@PySem.Data.seq (List.toArray [(@PySem.Value.str (Str.ofString "sizes") 2321), (@PySem.Value.str (Str.ofString "kind") 2322), (@PySem.Value.str (Str.ofString "points") 2323), (@PySem.Value.str (Str.ofString "signs") 2324), (@PySem.Value.str (Str.ofString "k") 2325)]) 0) (List.toArray []))
noncomputable def ho_107 (p : Params) : Obj := (@PySem.Obj.mk (@PySem.Value.type "tuple") none (@PySem.Data.seq (List.toArray []) 0) (List.toArray []))
noncomputable def ho_108 (p : Params) : Obj := (@PySem.Obj.mk @PySem.Value.none none (@PySem.Data.func (FuncData.mk (Str.ofString "_law_spelled") (Str.ofString "_law_spelled") P_spelled (.stmts B_spelled) S_spelled 0 [] @PySem.Value.none @PySem.Value.none @PySem.Value.none @PySem.Value.none none @PySem.Value.none @PySem.Value.none 0)) (List.toArray []))
noncomputable def ho_109 (p : Params) : Obj := (@PySem.Obj.mk (@PySem.Value.type "code") none (@PySem.Data.fields (List.toArray [(@PySem.Value.str (Str.ofString "_law_spelled") 2318), (@PySem.Value.str (Str.ofString "_law_spelled") 2319), (@PySem.Value.str (Str.ofString "/claim/cut.py") 2320), (@PySem.Value.int 29 0), (@PySem.Value.int 2 0), (@PySem.Value.int 0 0), (@PySem.Value.int 0 0), (@PySem.Value.int 3 0), (@PySem.Value.ref 104), (@PySem.Value.bool @Bool.true), (@PySem.Value.int 276 0), (@PySem.Value.ref 105), @PySem.Value.none, (@PySem.Value.ref 106), (@PySem.Value.ref 107), (@PySem.Value.ref 108), (@PySem.Value.int 2326 0), (@PySem.Value.int 29 0), (@PySem.Value.str (Str.ofString "/claim/cut.py") 2327)])) (List.toArray []))
noncomputable def ho_110 (p : Params) : Obj := (@PySem.Obj.mk (@PySem.Value.type "function") none (@PySem.Data.func (FuncData.mk (Str.ofString "_law_spelled") (Str.ofString "_law_spelled") P_spelled (.stmts B_spelled) S_spelled 3 [] @PySem.Value.none @PySem.Value.none @PySem.Value.none (@PySem.Value.str (Str.ofString "law_ta0025_01") 2308) none (@PySem.Value.ref 109) @PySem.Value.none 0)) (List.toArray []))
noncomputable def ho_111 (p : Params) : Obj := (@PySem.Obj.mk (@PySem.Value.type "tuple") none (@PySem.Data.seq (List.toArray []) 0) (List.toArray []))
noncomputable def ho_112 (p : Params) : Obj := (@PySem.Obj.mk @PySem.Value.none none (@PySem.Data.fields (List.toArray [])) (List.toArray []))
noncomputable def ho_113 (p : Params) : Obj := (@PySem.Obj.mk @PySem.Value.none none (@PySem.Data.func (FuncData.mk (Str.ofString "_law_by_folds") (Str.ofString "_law_by_folds") P_folds (.stmts B_folds) S_folds 0 [] @PySem.Value.none @PySem.Value.none @PySem.Value.none @PySem.Value.none none @PySem.Value.none @PySem.Value.none 0)) (List.toArray []))
noncomputable def ho_114 (p : Params) : Obj := (@PySem.Obj.mk (@PySem.Value.type "code") none (@PySem.Data.fields (List.toArray [(@PySem.Value.str (Str.ofString "_law_by_folds") 2329), (@PySem.Value.str (Str.ofString "_law_by_folds") 2330), (@PySem.Value.str (Str.ofString "/claim/cut.py") 2331), (@PySem.Value.int 35 0), (@PySem.Value.int 1 0), (@PySem.Value.int 0 0), (@PySem.Value.int 0 0), (@PySem.Value.int 3 0), (@PySem.Value.ref 111), (@PySem.Value.bool @Bool.true), (@PySem.Value.int 276 0), (@PySem.Value.ref 112), @PySem.Value.none, @PySem.Value.none, @PySem.Value.none, (@PySem.Value.ref 113), (@PySem.Value.int 2332 0), (@PySem.Value.int 35 0), (@PySem.Value.str (Str.ofString "/claim/cut.py") 2333)])) (List.toArray []))
noncomputable def ho_115 (p : Params) : Obj := (@PySem.Obj.mk (@PySem.Value.type "function") none (@PySem.Data.func (FuncData.mk (Str.ofString "_law_by_folds") (Str.ofString "_law_by_folds") P_folds (.stmts B_folds) S_folds 3 [] @PySem.Value.none @PySem.Value.none @PySem.Value.none (@PySem.Value.str (Str.ofString "law_ta0025_01") 2308) none (@PySem.Value.ref 114) @PySem.Value.none 0)) (List.toArray []))
noncomputable def ho_116 (p : Params) : Obj := (@PySem.Obj.mk (@PySem.Value.type "tuple") none (@PySem.Data.seq (List.toArray []) 0) (List.toArray []))
noncomputable def ho_117 (p : Params) : Obj := (@PySem.Obj.mk @PySem.Value.none none (@PySem.Data.fields (List.toArray [])) (List.toArray []))
noncomputable def ho_118 (p : Params) : Obj := (@PySem.Obj.mk @PySem.Value.none none (@PySem.Data.func (FuncData.mk (Str.ofString "_law_by_lengths") (Str.ofString "_law_by_lengths") P_lengths (.stmts B_lengths) S_lengths 0 [] @PySem.Value.none @PySem.Value.none @PySem.Value.none @PySem.Value.none none @PySem.Value.none @PySem.Value.none 0)) (List.toArray []))
noncomputable def ho_119 (p : Params) : Obj := (@PySem.Obj.mk (@PySem.Value.type "code") none (@PySem.Data.fields (List.toArray [(@PySem.Value.str (Str.ofString "_law_by_lengths") 2335), (@PySem.Value.str (Str.ofString "_law_by_lengths") 2336), (@PySem.Value.str (Str.ofString "/claim/cut.py") 2337), (@PySem.Value.int 44 0), (@PySem.Value.int 1 0), (@PySem.Value.int 0 0), (@PySem.Value.int 0 0), (@PySem.Value.int 3 0), (@PySem.Value.ref 116), (@PySem.Value.bool @Bool.true), (@PySem.Value.int 276 0), (@PySem.Value.ref 117), @PySem.Value.none, @PySem.Value.none, @PySem.Value.none, (@PySem.Value.ref 118), (@PySem.Value.int 2338 0), (@PySem.Value.int 44 0), (@PySem.Value.str (Str.ofString "/claim/cut.py") 2339)])) (List.toArray []))
noncomputable def ho_120 (p : Params) : Obj := (@PySem.Obj.mk (@PySem.Value.type "function") none (@PySem.Data.func (FuncData.mk (Str.ofString "_law_by_lengths") (Str.ofString "_law_by_lengths") P_lengths (.stmts B_lengths) S_lengths 3 [] @PySem.Value.none @PySem.Value.none @PySem.Value.none (@PySem.Value.str (Str.ofString "law_ta0025_01") 2308) none (@PySem.Value.ref 119) @PySem.Value.none 0)) (List.toArray []))
noncomputable def ho_121 (p : Params) : Obj := (@PySem.Obj.mk (@PySem.Value.type "tuple") none (@PySem.Data.seq (List.toArray []) 0) (List.toArray []))
noncomputable def ho_122 (p : Params) : Obj := (@PySem.Obj.mk @PySem.Value.none none (@PySem.Data.fields (List.toArray [])) (List.toArray []))
noncomputable def ho_123 (p : Params) : Obj := (@PySem.Obj.mk @PySem.Value.none none (@PySem.Data.func (FuncData.mk (Str.ofString "_law_product") (Str.ofString "_law_product") P_product (.stmts B_product) S_product 0 [] @PySem.Value.none @PySem.Value.none @PySem.Value.none @PySem.Value.none none @PySem.Value.none @PySem.Value.none 0)) (List.toArray []))
noncomputable def ho_124 (p : Params) : Obj := (@PySem.Obj.mk (@PySem.Value.type "code") none (@PySem.Data.fields (List.toArray [(@PySem.Value.str (Str.ofString "_law_product") 2341), (@PySem.Value.str (Str.ofString "_law_product") 2342), (@PySem.Value.str (Str.ofString "/claim/cut.py") 2343), (@PySem.Value.int 52 0), (@PySem.Value.int 3 0), (@PySem.Value.int 0 0), (@PySem.Value.int 0 0), (@PySem.Value.int 3 0), (@PySem.Value.ref 121), (@PySem.Value.bool @Bool.true), (@PySem.Value.int 276 0), (@PySem.Value.ref 122), @PySem.Value.none, @PySem.Value.none, @PySem.Value.none, (@PySem.Value.ref 123), (@PySem.Value.int 2344 0), (@PySem.Value.int 52 0), (@PySem.Value.str (Str.ofString "/claim/cut.py") 2345)])) (List.toArray []))
noncomputable def ho_125 (p : Params) : Obj := (@PySem.Obj.mk (@PySem.Value.type "function") none (@PySem.Data.func (FuncData.mk (Str.ofString "_law_product") (Str.ofString "_law_product") P_product (.stmts B_product) S_product 3 [] @PySem.Value.none @PySem.Value.none @PySem.Value.none (@PySem.Value.str (Str.ofString "law_ta0025_01") 2308) none (@PySem.Value.ref 124) @PySem.Value.none 0)) (List.toArray []))
noncomputable def ho_126 (p : Params) : Obj := (@PySem.Obj.mk (@PySem.Value.type "tuple") none (@PySem.Data.seq (List.toArray []) 0) (List.toArray []))
noncomputable def ho_127 (p : Params) : Obj := (@PySem.Obj.mk @PySem.Value.none none (@PySem.Data.fields (List.toArray [])) (List.toArray []))
noncomputable def ho_128 (p : Params) : Obj := (@PySem.Obj.mk @PySem.Value.none none (@PySem.Data.func (FuncData.mk (Str.ofString "law") (Str.ofString "law") P_law (.stmts B_law) S_law 0 [] @PySem.Value.none @PySem.Value.none @PySem.Value.none @PySem.Value.none none @PySem.Value.none @PySem.Value.none 0)) (List.toArray []))
noncomputable def ho_129 (p : Params) : Obj := (@PySem.Obj.mk (@PySem.Value.type "code") none (@PySem.Data.fields (List.toArray [(@PySem.Value.str (Str.ofString "law") 2347), (@PySem.Value.str (Str.ofString "law") 2348), (@PySem.Value.str (Str.ofString "/claim/cut.py") 2349), (@PySem.Value.int 76 0), (@PySem.Value.int 1 0), (@PySem.Value.int 0 0), (@PySem.Value.int 0 0), (@PySem.Value.int 3 0), (@PySem.Value.ref 126), (@PySem.Value.bool @Bool.true), (@PySem.Value.int 276 0), (@PySem.Value.ref 127), @PySem.Value.none, @PySem.Value.none, @PySem.Value.none, (@PySem.Value.ref 128), (@PySem.Value.int 2350 0), (@PySem.Value.int 76 0), (@PySem.Value.str (Str.ofString "/claim/cut.py") 2351)])) (List.toArray []))
noncomputable def ho_130 (p : Params) : Obj := (@PySem.Obj.mk (@PySem.Value.type "function") none (@PySem.Data.func (FuncData.mk (Str.ofString "law") (Str.ofString "law") P_law (.stmts B_law) S_law 3 [] @PySem.Value.none @PySem.Value.none @PySem.Value.none (@PySem.Value.str (Str.ofString "law_ta0025_01") 2308) none (@PySem.Value.ref 129) @PySem.Value.none 0)) (List.toArray []))
noncomputable def h16_tree (p : Params) : BT := (.node (ho_0 p) (.node (ho_1 p) (.node (ho_3_3 p) (.node (ho_7 p) (.node (ho_15 p) (.node (ho_31 p) (.node (sD 12) (.node (ho_127 p) .nil .nil) .nil) (.node (ho_95 p) .nil .nil)) (.node (ho_47 p) (.node (sD 28) .nil .nil) (.node (ho_111 p) .nil .nil))) (.node (ho_23 p) (.node (ho_39 p) (.node (sD 20) .nil .nil) (.node (ho_103 p) .nil .nil)) (.node (sD 4) (.node (sD 36) .nil .nil) (.node (ho_119 p) .nil .nil)))) (.node (ho_11_1 p) (.node (ho_19 p) (.node (ho_35 p) (.node (sD 16) .nil .nil) (.node (ho_99 p) .nil .nil)) (.node (sD 0) (.node (sD 32) .nil .nil) (.node (ho_115 p) .nil .nil))) (.node (ho_27 p) (.node (ho_43 p) (.node (sD 24) .nil .nil) (.node (ho_107 p) .nil .nil)) (.node (sD 8) (.node (ho_91 p) .nil .nil) (.node (ho_123 p) .nil .nil))))) (.node (ho_5 p) (.node (ho_9 p) (.node (ho_17 p) (.node (ho_33 p) (.node (sD 14) (.node (ho_129 p) .nil .nil) .nil) (.node (ho_97 p) .nil .nil)) (.node (ho_49 p) (.node (sD 30) .nil .nil) (.node (ho_113 p) .nil .nil))) (.node (ho_25 p) (.node (ho_41 p) (.node (sD 22) .nil .nil) (.node (ho_105 p) .nil .nil)) (.node (sD 6) (.node (sD 38) .nil .nil) (.node (ho_121 p) .nil .nil)))) (.node (ho_13 p) (.node (ho_21 p) (.node (ho_37 p) (.node (sD 18) .nil .nil) (.node (ho_101 p) .nil .nil)) (.node (sD 2) (.node (sD 34) .nil .nil) (.node (ho_117 p) .nil .nil))) (.node (ho_29_2 p) (.node (ho_45 p) (.node (sD 26) .nil .nil) (.node (ho_109 p) .nil .nil)) (.node (sD 10) (.node (ho_93 p) .nil .nil) (.node (ho_125 p) .nil .nil)))))) (.node (ho_2 p) (.node (ho_4 p) (.node (ho_8 p) (.node (ho_16 p) (.node (ho_32 p) (.node (sD 13) (.node (ho_128 p) .nil .nil) .nil) (.node (ho_96 p) .nil .nil)) (.node (ho_48 p) (.node (sD 29) .nil .nil) (.node (ho_112 p) .nil .nil))) (.node (ho_24 p) (.node (ho_40 p) (.node (sD 21) .nil .nil) (.node (ho_104 p) .nil .nil)) (.node (sD 5) (.node (sD 37) .nil .nil) (.node (ho_120 p) .nil .nil)))) (.node (ho_12 p) (.node (ho_20 p) (.node (ho_36 p) (.node (sD 17) .nil .nil) (.node (ho_100 p) .nil .nil)) (.node (sD 1) (.node (sD 33) .nil .nil) (.node (ho_116 p) .nil .nil))) (.node (ho_28 p) (.node (ho_44 p) (.node (sD 25) .nil .nil) (.node (ho_108 p) .nil .nil)) (.node (sD 9) (.node (ho_92 p) .nil .nil) (.node (ho_124 p) .nil .nil))))) (.node (ho_6 p) (.node (ho_10 p) (.node (ho_18 p) (.node (ho_34 p) (.node (sD 15) (.node (ho_130 p) .nil .nil) .nil) (.node (ho_98 p) .nil .nil)) (.node (ho_50 p) (.node (sD 31) .nil .nil) (.node (ho_114 p) .nil .nil))) (.node (ho_26 p) (.node (ho_42 p) (.node (sD 23) .nil .nil) (.node (ho_106 p) .nil .nil)) (.node (sD 7) (.node (ho_90 p) .nil .nil) (.node (ho_122 p) .nil .nil)))) (.node (ho_14 p) (.node (ho_22 p) (.node (ho_38 p) (.node (sD 19) .nil .nil) (.node (ho_102 p) .nil .nil)) (.node (sD 3) (.node (sD 35) .nil .nil) (.node (ho_118 p) .nil .nil))) (.node (ho_30 p) (.node (ho_46 p) (.node (sD 27) .nil .nil) (.node (ho_110 p) .nil .nil)) (.node (sD 11) (.node (ho_94 p) .nil .nil) (.node (ho_126 p) .nil .nil)))))))
noncomputable def h16 (w : World) (os : OsState) : SharedT := ⟨h16_tree w.params, 131, lifeH, #[], drawnH, 2353, os⟩
set_option maxHeartbeats 0
theorem h_pre (w : World) (os : OsState) : topGo treeTable pw w 28 annH 12 (h0 w os).abs (topStub pw) = some ((ha w os).abs, ⟨denote treeTable cH, cH, q0, [topFrame q0]⟩) := by kernel_rfl
theorem h_block (w : World) (os : OsState) : segRun treeTable pw w 28 annH 1 1 (ha w os).abs (blockOf (behindTheImports pw) envH cH q0 [topFrame q0]) = some (.next, (hb w os).abs, cH, q0) := by kernel_rfl
theorem h_piece7 (w : World) (os : OsState) : segRunT treeTable pw w 28 annH 1 183 (hb w os) (piecesOf sts7 envH cH q0 [topFrame q0]) = some (.next, h7 w os, cH, ⟨16, 0, 16, 8⟩) := by kernel_rfl
theorem h_tail (w : World) (os : OsState) : segRunT treeTable pw w 28 annH 1 12 (⟨h8d_tree w.params, 90, lifeH, #[], drawnH, 2299, os⟩ : SharedT) ⟨(tailOf envH "b3_exceptions" (xpD stD) (.Dict (ksD stD) (vsD stD) (dposD stD)) (.ref 51)).wrap doneF deadEnd id id, cH, dposD stD, [topFrame q0]⟩ = some (.next, h8 w os, cH, ⟨17, 0, 17, 13⟩) := by kernel_rfl
theorem h_piece16 (w : World) (os : OsState) : segRunT treeTable pw w 28 annH 1 214 (h8 w os) (piecesOf sts8 envH cH ⟨17, 0, 17, 13⟩ [topFrame q0]) = some (.next, h16 w os, cH, ⟨76, 0, 104, 123⟩) := by kernel_rfl
theorem h_fin (w : World) (os : OsState) : topRun treeTable pw w 28 annH 2 (h16 w os).abs ⟨doneF .next, cH, ⟨76, 0, 104, 123⟩, [topFrame q0]⟩ = some (h16 w os).abs := by kernel_rfl
noncomputable def dsH : DS := ⟨2299, some esD.flatten, esD.tail⟩
theorem ds_written : writtenOf (ksD stD) (vsD stD) = some psD := by kernel_rfl
theorem ds_display : displayU 349 psD 0 = some dsH := by kernel_rfl
theorem ds_heap (p : Params) : hp (absHeap (h7_tree p) 51 lifeH) dsH.objs = absHeap (h8d_tree p) 90 lifeH := by kernel_rfl
theorem ds_st : [Stmt.Assign [.Name "b3_exceptions" (xpD stD)] (.Dict (ksD stD) (vsD stD) (dposD stD)) (posD stD)] = [stD] := by kernel_rfl
theorem h_dict (w : World) (os : OsState) : segRun treeTable pw w 28 annH 1 (26 * psD.length + 2 + 12) (h7 w os).abs (piecesOf [stD] envH cH ⟨16, 0, 16, 8⟩ [topFrame q0]) = some (.next, (h8 w os).abs, cH, ⟨17, 0, 17, 13⟩) := by
  rw [← ds_st]
  exact assign_runT (n := 51) (T := h7_tree w.params) (T₂ := h8d_tree w.params) (n₂ := 90) (toks := 349) (life := lifeH) (gens := #[]) (drawn := drawnH) ds_written rfl rfl (display_of ds_display) (ds_heap w.params) (segRun_of (h_tail w os))
noncomputable def runN : Nat := 12 + (1 + (183 + ((26 * psD.length + 2 + 12) + (214 + 2))))
theorem body_eq : behindTheImports pw = sts7 ++ ([stD] ++ (sts8 ++ [])) := by kernel_rfl
theorem h_run (w : World) (os : OsState) : topRun treeTable pw w 28 annH runN (h0 w os).abs (topStub pw) = some (h16 w os).abs := by
  refine go_top (h_pre w os) ?_
  refine piece_block (env := envH) (q := q0) (h_block w os) ?_
  rw [body_eq]
  refine piece_app (segRun_of (h_piece7 w os)) ?_
  refine piece_app (h_dict w os) ?_
  refine piece_app (segRun_of (h_piece16 w os)) ?_
  exact piece_nil (h_fin w os)
theorem run_le : Nat.ble runN 30000 = true := by kernel_rfl
theorem h_imp (w : World) (os : OsState) : impAllT (opening pw) w 798 (hz w os) (start (opening pw)).2 = some (hi w os) := by kernel_rfl
theorem imp_ends {p : Program} {w : World} {n : Nat} {s s' : SharedT} {t : Thread} (h : impAllT p w n s t = some s') : importEnds treeTable p w (n + 1) s.abs t = some s'.abs := by
  unfold impAllT at h
  split at h
  · rename_i s₁ t₁ e
    split at h
    · rename_i e2
      cases h
      refine imp_go (impGo_of e) ?_
      unfold importEnds
      rw [e2]
    · cases h
  · cases h
theorem start_z (w : World) : (start (opening pw)).1 = (hz w (start (opening pw)).1.os).abs := by kernel_rfl
theorem h_fence (w : World) : (fun os => (fenceModules? pw ⟨absHeap (hi_tree w.params) 28 lifeH, #[], drawnH, 276, os⟩).map (fun s => (s.heap, s.gens, s.drawn, s.toks))) = fun _ => some (absHeap (h0_tree w.params) 28 lifeH, (#[] : Array GenState), drawnH, 276) := by kernel_rfl
theorem h_open (w : World) : (fencedOpening treeTable pw w 30000).map (fun s => (s.heap, s.gens, s.drawn, s.toks)) = some (absHeap (h0_tree w.params) 28 lifeH, #[], drawnH, 276) := by
  refine open_cut (M := 799) (He := fun P => absHeap (hi_tree P) 28 lifeH) (H₀ := fun P => absHeap (h0_tree P) 28 lifeH) (ge := #[]) (de := drawnH) (ke := 276) (fun w => ?_) rfl h_fence w
  have := imp_ends (h_imp w (start (opening pw)).1.os)
  rw [← start_z] at this
  exact this
end Mine

-- HT2
namespace Mine
noncomputable def qv : Program := view pw [16]
noncomputable def looseH : List Str := ["_sre", "_twin_re_1", "CRLF", "_fix_eols", "Int2AP", "b3_exceptions", "map_table_b3", "_law_fibonacci", "_law_spelled", "_law_by_folds", "_law_by_lengths", "_law_product"]
noncomputable def endH (w : World) : Heap := absHeap (h16_tree w.params) 131 lifeH
set_option maxHeartbeats 0
theorem h_size (w : World) : ((absHeap (h0_tree w.params) 28 lifeH).isNs mainGlobals && (#[] : Array GenState).size == 0, (absHeap (h0_tree w.params) 28 lifeH).objs.size, (absHeap (h0_tree w.params) 28 lifeH).nsMap mainGlobals "__annotations__") = (true, 28, annH) := by kernel_rfl
theorem l_statics (w : World) : staticsOk (importedModules pw.main.body) (absHeap (h0_tree w.params) 28 lifeH) (endH w) = true := by kernel_rfl
theorem l_bound (w : World) : namesBound pw (endH w) = true := by kernel_rfl
theorem l_gens (w : World) (os : OsState) : gensDone ⟨endH w, #[], drawnH, 2353, os⟩ = true := by kernel_rfl
theorem l_laid (w : World) : laidKept (absHeap (h0_tree w.params) 28 lifeH) (endH w) = true := by kernel_rfl
theorem l_seen (w : World) (os : OsState) : seen ((recsOf qv).map (·.name)) (ownsOf qv) [] { (⟨endH w, #[], drawnH, 2353, os⟩ : Shared) with gens := #[] } = expectedOf qv := by kernel_rfl
theorem l_blt (w : World) : (endH w).bltView = bltViewBooted := by kernel_rfl
theorem l_keys (w : World) : (endH w).keysOk (looseW qv looseH) ((recsOf qv).map (·.name)) ((litsOf qv).map (·.1)) ((clssOf qv (looseW qv looseH)).map (·.name)) = true := by kernel_rfl
theorem l_acc (w : World) : (endH w).accountedOkI (importedModules pw.main.body) = true := by kernel_rfl
theorem l_main (w : World) : (endH w).isNs mainGlobals = true := by kernel_rfl
theorem l_blns (w : World) : (endH w).isNs builtinsNs = true := by kernel_rfl
theorem l_tabs (w : World) : tablesOk qv (endH w) = true := by kernel_rfl
theorem l_tabs2 (w : World) (os : OsState) : tabsOk qv ⟨endH w, #[], drawnH, 2353, os⟩ = true := by kernel_rfl
theorem l_rest (w : World) (os : OsState) : (pinSeenD qv (drecsOf qv) ⟨endH w, #[], drawnH, 2353, os⟩, plainSeenE qv (looseW qv looseH) ⟨endH w, #[], drawnH, 2353, os⟩, plainSeenD qv looseH ⟨endH w, #[], drawnH, 2353, os⟩, wideSeen qv ⟨endH w, #[], drawnH, 2353, os⟩, clsSeenW qv looseH ⟨endH w, #[], drawnH, 2353, os⟩) = (pinGoodD (drecsOf qv), plainGoodE qv (looseW qv looseH), plainGoodD qv looseH, wideGood qv, clsGoodW qv looseH) := by kernel_rfl
end Mine

-- HT3
namespace Mine
theorem h_left : LeftO pw qv looseH (fun _ => true) (fun s => s.heap) endH 30000 :=
  LeftO.of_pieces (H₀ := fun P => absHeap (h0_tree P) 28 lifeH) (H₁ := fun P => absHeap (h16_tree P) 131 lifeH) (gs₀ := #[]) (gs₁ := #[]) (d₀ := drawnH) (d₁ := drawnH) (k₀ := 276) (k₁ := 2353) (m₀ := 28) (ann := annH) (M := runN)
    h_open h_size h_run run_le fun w => by
      funext os
      refine looks_pair ?_ (looks_pair ?_ rfl)
      · show (_ && _ && _ && _) = true
        rw [Bool.and_eq_true, Bool.and_eq_true, Bool.and_eq_true]
        exact ⟨⟨⟨l_statics w, l_bound w⟩, l_gens w os⟩, l_laid w⟩
      · refine looks_pair (l_seen w os) (looks_pair (l_blt w) (looks_pair ?_ (looks_pair (l_tabs2 w os) (l_rest w os))))
        show (_ && _ && _ && _ && _ && _ && _) = true
        simp only [Bool.and_eq_true]
        exact ⟨⟨⟨⟨⟨⟨l_keys w, l_acc w⟩, l_main w⟩, l_blns w⟩, l_tabs w⟩, trivial⟩, rfl⟩
noncomputable def posL : Stmt → Pos
  | .FunctionDef _ _ _ _ _ _ _ _ _ p => p
  | _ => default
noncomputable def dL : DefRec := ⟨"law", P_law, B_law, S_law, posL (nthS allS.1 15)⟩
noncomputable abbrev rw' : OpenLaw := PySem.Challenge.rw_ta0025_01
theorem holds_of (call : WalkX qv looseH (fun _ _ => True) (fun s => s.heap) endH rw'.row.toRowW dL [] (fun f vs => PySem.call f vs)) : rw'.Holds := by
  refine holds_law (by kernel_rfl) fun said => ?_
  refine holds_openX (q := qv) (loose := looseH) (Xt := fun _ => true) (XP := fun _ _ => True) (Yf := fun s => s.heap) (Ya := endH) (N := 30000) (d := dL) (kwd := []) h_left (fun _ _ => trivial) (fun _ _ _ _ _ => trivial) (by kernel_rfl) (by kernel_rfl) (by kernel_rfl) (fun s _ => recFacts_nil rfl) (by kernel_rfl) said (by kernel_rfl) ⟨rfl, rfl, rfl, rfl, rfl, by decide +kernel⟩ ?_ call
  exact ⟨[ofPy (PyData.list ([3, 1].map PyData.int))], by decide +kernel, by decide +kernel⟩
end Mine

-- R1
namespace Mine
-- what the tables say of a pattern's sub
theorem pat_plain : PlainAttrs "re.Pattern" :=
  ⟨⟨"object.__getattribute__", by rw [typeLookup_type, builtinLookup_eq_fast]; kernel_rfl, by decide +kernel⟩, by rw [typeLookup_type, builtinLookup_eq_fast]; kernel_rfl⟩
theorem pat_slot : PySem.Slot "re.Pattern" "sub" "re.Pattern.sub" :=
  .of (owner := "re.Pattern") (n := "sub") (by rw [typeLookup_type, builtinLookup_eq_fast]; kernel_rfl) (by decide +kernel) (by decide +kernel) (by decide +kernel)
    (by first | exact .inl (by decide +kernel) | exact .inr (by decide +kernel)) (by rw [isSubtype_type]; kernel_rfl)
theorem pat_type : typeOf (.builtin "re.Pattern.sub") = pure (.type "method_descriptor") := by show builtinType _ = _; rw [builtinType_eq_fast]; kernel_rfl
theorem pat_entry : entryFor table "re.Pattern.sub" = some Builtin.«re.Pattern.sub» := entryFor_of_tree (by kernel_rfl)
theorem pat_loop : entryFor table "re.Pattern.sub.loop" = some Builtin.«re.Pattern.sub.loop» := entryFor_of_tree (by kernel_rfl)
theorem pat_args (a b c : Value) : argsOk "re.Pattern.sub" ⟨[a, b, c], []⟩ := by
  unfold argsOk
  rw [signature?_of (id := "re.Pattern.sub") (n := ['b', 'u', 's']) (o := ['n', 'r', 'e', 't', 't', 'a', 'P', '.', 'e', 'r']) (by kernel_rfl) (rows := Manifest.sig_re_Pattern) (by kernel_rfl)]
  kernel_rfl
theorem loop_quiet (args : Args) : (Code.builtin "re.Pattern.sub.loop" args).quiet = true := by
  exact plainId_quiet (by decide +kernel) args
end Mine

-- R2
namespace Mine
noncomputable def runTurns : Nat → Sre.M → Option Sre.M
  | 0, _ => none
  | n + 1, m => if (m.runFor 4).outcome.isSome then some (m.runFor 4) else runTurns n (m.runFor 4)
noncomputable def endOf (m : Sre.M) : Option (Option Sre.M) := match runTurns 100 m with
  | some m' => match m'.outcome with
    | some .matched => some (some m')
    | some .failed => some none
    | _ => none
  | none => none
section
variable {M : Model} {A : Around} {E : Value → Shared → Prop} {s : Shared}
theorem drive_wp : ∀ {n k : Nat} {m m' : Sre.M} {Q : Sre.M → Shared → Prop}, runTurns n m = some m' → n ≤ k → Q m' s → wpAny M A (Builtin.Re.reDrive k m) Q E s
  | 0, _, _, _, _, h, _, _ => by cases h
  | n + 1, 0, _, _, _, _, h, _ => absurd h (by omega)
  | n + 1, k + 1, m, m', Q, h, hk, hq => by
    unfold runTurns at h
    show wpAny M A (if (m.runFor 4).outcome.isSome then pure (m.runFor 4) else do rule "sre.turn"; Builtin.Re.reDrive k (m.runFor 4)) Q E s
    split at h
    · rename_i hs
      cases h
      rw [if_pos hs]
      exact wpAny_pure hq
    · rename_i hs
      rw [if_neg hs]
      exact wpAny_bind (wpAny_rule (drive_wp h (by omega) hq))
theorem rules_wp {m : Sre.M} {Q : PUnit → Shared → Prop} (hq : Q PUnit.unit s) : ∀ l : List Nat, wpAny M A (forIn l PUnit.unit (fun i (_ : PUnit) => do
    if m.seen.has i then rule (Sre.names.getD i "")
    pure (ForInStep.yield PUnit.unit))) Q E s
  | [] => by rw [List.forIn_nil]; exact wpAny_pure hq
  | i :: l => by
    rw [List.forIn_cons]
    refine wpAny_bind ?_
    by_cases h : m.seen.has i = true
    · rw [if_pos h]
      exact wpAny_bind (wpAny_rule (wpAny_pure (rules_wp hq l)))
    · rw [if_neg h]
      first
        | exact wpAny_bind (wpAny_pure (wpAny_pure (rules_wp hq l)))
        | exact wpAny_pure (rules_wp hq l)
theorem runEnd_wp {m : Sre.M} {r : Option Sre.M} {Q : Option Sre.M → Shared → Prop} (h : endOf m = some r) (hq : Q r s) : wpAny M A (Builtin.Re.reRunToEnd m) Q E s := by
  unfold endOf at h
  split at h
  · rename_i m' e
    unfold Builtin.Re.reRunToEnd
    refine wpAny_bind (drive_wp e (by decide) ?_)
    refine wpAny_bind (rules_wp ?_ _)
    split at h
    · rename_i ho
      cases h
      rw [ho]
      exact wpAny_pure hq
    · rename_i ho
      cases h
      rw [ho]
      exact wpAny_pure hq
    · cases h
  · cases h
end
end Mine

-- R3
namespace Mine
noncomputable def codeW : List Nat := [14, 9, 4, 1, 2, 16, 10, 16, 13, 0, 7, 7, 16, 13, 16, 10, 15, 18, 5, 16, 10, 15, 13, 11, 16, 13, 5, 5, 0, 16, 10, 1, 15, 2, 0, 1]
/-- the pattern's object -/
structure PatAt (h : Heap) (T : Addr) : Prop where
  at_ : ∃ U p osl, h.get? T = some { cls := .type "re.Pattern", dict := none, data := .fields #[p, .int 32 324, .int 0 0, .none, .none, .ref U, .int 0 0], slots := osl } ∧
    ∃ o n, h.get? U = some o ∧ o.data = .seq (codeW.map (fun (k : Nat) => Value.int (k : Int) 0)).toArray n
theorem PatAt.keeps {h h' : Heap} {T : Addr} (P : PatAt h T) (k : ∀ b o, h.get? b = some o → h'.get? b = some o) : PatAt h' T := by
  obtain ⟨U, p, osl, h1, o, n, h2, h3⟩ := P.at_
  exact ⟨U, p, osl, k _ _ h1, o, n, k _ _ h2, h3⟩
noncomputable def nextF (t : Array Nat) (start : Nat) (must : Bool) : Option (Option Sre.M) := endOf (Sre.forSearch codeW.toArray t 0 start t.size must)
noncomputable def subR : Nat → List Nat → Nat → Nat → Bool → List (List Nat) → Option (List (List Nat))
  | 0, _, _, _, _, _ => none
  | f + 1, l, done, start, must, acc => match nextF l.toArray start must with
    | none => none
    | some none => some (acc ++ if done < l.length then [(l.toArray.extract done l.length).toList] else [])
    | some (some m) => if m.handed < 100000 ∧ m.start < 100000 then subR f l m.handed m.handed (m.handed == m.start) (acc ++ (if done < m.start then [(l.toArray.extract done m.start).toList] else []) ++ [[13, 10]]) else none
noncomputable def isText (l : List Nat) (v : Value) : Prop := ∃ t, v = .str ⟨l.toArray⟩ t
section
variable {prog : Program} {w : World} {A : Around} {E : Value → Shared → Prop} {s : Shared}
/-- what is to be sought in -/
theorem whole_wp {T : Addr} {l : List Nat} {t : Tok} {Q : Builtin.Re.ReTarget → Shared → Prop} (P : PatAt s.heap T)
    (hq : Q { pattern := .ref T, string := .str ⟨l.toArray⟩ t, code := codeW.toArray, text := l.toArray, kind := 0, groups := 0, pos := 0, lim := l.length } s) :
    wpAny (model prog w) A (Builtin.Re.reWholeTarget (.ref T) (.str ⟨l.toArray⟩ t)) Q E s := by
  obtain ⟨U, p, osl, h1, o, n, h2, h3⟩ := P.at_
  unfold Builtin.Re.reWholeTarget
  refine wpAny_bind (wpAny_fieldsOf h1 rfl ?_)
  refine wpAny_bind (wpAny_bind (wpAny_pure (wpAny_pure ?_)))
  show wpAny (model prog w) A (Builtin.Re.reRawItems (.ref U) >>= fun r => pure { pattern := .ref T, string := .str ⟨l.toArray⟩ t, code := r.map (·.toNat), text := l.toArray, kind := 0, groups := 0, pos := 0, lim := l.toArray.size }) Q E s
  refine wpAny_bind (wpAny_bind (wpAny_seqItems h2 h3 (wpAny_pure (wpAny_pure ?_))))
  have e : (Array.map (fun x => x.toNat) (Array.map Builtin.Re.reRawOf ((some (codeW.map (fun (k : Nat) => Value.int (k : Int) 0)).toArray).getD #[]))) = codeW.toArray := by decide +kernel
  rw [e, List.size_toArray]
  exact hq
/-- a piece is put -/
theorem put_wp {P : Addr} {vs : List Value} {v : Value} {Q : Unit → Shared → Prop} (hl : s.heap.PlainList P vs.toArray) (hz : vs.length ≤ 1000)
    (hq : ∀ h', h'.PlainList P (vs ++ [v]).toArray → Heap.SameBut P s.heap h' → Q () { s with heap := h' }) : wpAny (model prog w) A (updateSeq P (·.push v)) Q E s := by
  obtain ⟨n, ho⟩ := hl
  refine wpAny_updateSeq ho rfl (hq _ ⟨n + 1, ?_⟩ (Heap.SameBut.update ..)) (by simp only [List.size_toArray, sizeLine_eq]; omega) (by simp only [Array.size_push, List.size_toArray, sizeLine_eq]; omega)
  rw [Heap.get?_update_self _ ho (by rw [Obj.mapSeq_push_plain]; rfl), Obj.mapSeq_push_plain]
  simp
theorem slice_wp {l : List Nat} {b e : Nat} {Q : Value → Shared → Prop} (hl : l.length ≤ 10000) (hq : ∀ v tk, isText (l.toArray.extract b e).toList v → Q v { s with toks := tk }) : wpAny (model prog w) A (Builtin.Re.reSlice l.toArray 0 b e) Q E s := by
  show wpAny (model prog w) A (mkStr ⟨l.toArray.extract b e⟩) Q E s
  refine wpAny_mkStr (hq _ _ ⟨s.toks, by simp⟩) ?_
  show (l.toArray.extract b e).size ≤ sizeLine
  rw [sizeLine_eq, Array.size_extract, List.size_toArray]
  omega
noncomputable abbrev subArgs (T P : Addr) (l : List Nat) (t tc : Tok) (n done start : Int) (must : Bool) : Args :=
  ⟨[.ref T, .str ⟨l.toArray⟩ t, .str ⟨#[13, 10]⟩ tc, rawInt 0, rawInt 0, rawInt n, rawInt done, rawInt start, .bool must, .ref P, .bool false], []⟩
theorem texts_values : ∀ {acc : List (List Nat)} {vs : List Value}, All2 isText acc vs → ∃ ps : List (Str × Tok), vs = strValues ps ∧ ps.map (·.1) = acc.map fun a => ⟨a.toArray⟩
  | _, _, .nil => ⟨[], rfl, rfl⟩
  | a :: _, _, .cons h r => by
    obtain ⟨t, e⟩ := h
    obtain ⟨ps, e1, e2⟩ := texts_values r
    refine ⟨((⟨a.toArray⟩ : Str), t) :: ps, ?_, ?_⟩
    · rw [e, e1]; rfl
    · rw [List.map_cons, List.map_cons, e2]
theorem sub_loop {T P : Addr} {l : List Nat} {t tc : Tok} {res : List (List Nat)} {R : Result → Shared → Prop} {h₁ : Heap} (hT : PatAt h₁ T) (hl : l.length ≤ 10000) (hP : h₁.get? P = none) (hj : JoinOk ⟨#[]⟩ (res.map fun a => ⟨a.toArray⟩) = true)
    (hR : ∀ h' t' tk, (∀ b o, h₁.get? b = some o → h'.get? b = some o) → R (.ok (.ret (.str (Txt.join ⟨#[]⟩ (res.map fun a => ⟨a.toArray⟩)) t'))) { s with heap := h', toks := tk }) :
    ∀ {f done start : Nat} {n : Int} {must : Bool} {acc : List (List Nat)} {vs : List Value} {h : Heap} {tk : Nat}, subR f l done start must acc = some res → acc.length + 2 * f ≤ 900 → All2 isText acc vs → (∀ b o, h₁.get? b = some o → h.get? b = some o) → h.PlainList P vs.toArray →
      codeAny (model prog w) A (.builtin "re.Pattern.sub.loop" (subArgs T P l t tc n done start must)) R { s with heap := h, toks := tk }
  | 0, _, _, _, _, _, _, _, _, e, _, _, _, _ => by cases e
  | f + 1, done, start, n, must, acc, vs, h, tk, e, hz, ha, hk, hp => by
    unfold subR at e
    refine codeAny_builtin pat_loop ?_
    have hv := ha.length
    unfold Builtin.«re.Pattern.sub.loop»
    dsimp only [rawInt]
    refine wpAny_bind (whole_wp (hT.keeps hk) ?_)
    have stay : ∀ {h' h'' : Heap}, (∀ b o, h₁.get? b = some o → h'.get? b = some o) → Heap.SameBut P h' h'' → ∀ b o, h₁.get? b = some o → h''.get? b = some o := fun hk sb b o eb => sb.extBut b o (fun q => by rw [q, hP] at eb; cases eb) (hk b o eb)
    show wpAny (model prog w) _ (Builtin.Re.reLiteralCannotBeTurned (.str ⟨#[13, 10]⟩ tc) >>= fun _ => _) _ _ _
    refine wpAny_bind (wpAny_bind (wpAny_pure (wpAny_pure ?_)))
    have step : ∀ {Q : Option Sre.M → Shared → Prop} {r : Option Sre.M} {A' : Around} {E' : Value → Shared → Prop} {s' : Shared}, nextF l.toArray start must = some r → Q r s' →
        wpAny (model prog w) A' (if ((0 : Int) != 0 && decide (n ≥ 0)) = true then pure none else Builtin.Re.reNextFound { pattern := .ref T, string := .str ⟨l.toArray⟩ t, code := codeW.toArray, text := l.toArray, kind := 0, groups := 0, pos := 0, lim := l.length } (start : Int).toNat must) Q E' s' := fun e1 hq => by
      show wpAny _ _ (Builtin.Re.reRunToEnd (Sre.forSearch codeW.toArray l.toArray 0 start l.length must)) _ _ _
      refine runEnd_wp ?_ hq
      rw [← e1]
      unfold nextF
      rw [List.size_toArray]
    have joined : ∀ {h' : Heap} {tk' : Nat} {vs' : List Value} {A' : Around}, (∀ b o, h₁.get? b = some o → h'.get? b = some o) → h'.PlainList P vs'.toArray → All2 isText res vs' → vs'.length ≤ 950 →
        wpAny (model prog w) A' (Builtin.Re.reSlice l.toArray 0 0 0 >>= fun joiner => seqItems? (.ref P) >>= fun its => if (its.getD #[]).isEmpty = true then (pure joiner >>= fun text => (ret text : Sem Fin)) else (call (.builtin "str.join") [joiner, .ref P] >>= fun text => (ret text : Sem Fin)))
          (fun fin s' => match fin with | .done f => R (.ok f) s' | .again c' => c'.quiet = true ∧ codeAny (model prog w) A c' R s') (fun e s' => R (.error e) s') { s with heap := h', toks := tk' } := fun {h' tk' vs' A'} hk' hp' ha' hz' => by
      refine wpAny_bind (slice_wp hl fun jv tk2 jt => ?_)
      obtain ⟨nn, hpe⟩ := id hp'
      refine wpAny_bind (wpAny_seqItems hpe rfl ?_)
      obtain ⟨ps, e1, e2⟩ := texts_values ha'
      obtain ⟨jtok, rfl⟩ := jt
      by_cases hem : ((some vs'.toArray).getD #[]).isEmpty = true
      · rw [if_pos hem]
        refine wpAny_bind (wpAny_pure (wpAny_pure ?_))
        have : vs' = [] := by simpa using hem
        subst this
        cases ha'
        have := hR h' jtok tk2 hk'
        have ej : (l.toArray.extract 0 0).toList.toArray = #[] := by simp
        rw [ej]
        exact this
      · rw [if_neg hem]
        have ej : (l.toArray.extract 0 0).toList.toArray = #[] := by simp
        rw [ej]
        refine wpAny_bind (SC.join (s := { s with heap := h', toks := tk2 }) (l := ps) (by rw [← e1]; exact hp'.isList) e2 hj fun t' k => wpAny_pure ?_)
        exact hR h' t' k hk'
    split at e
    · cases e
    · rename_i e1
      refine wpAny_bind (step e1 ?_)
      cases e
      dsimp only
      by_cases hd : done < l.length
      · have hd' : (done : Int).toNat < l.length := hd
        rw [if_pos hd] at hj hR joined
        rw [if_pos hd']
        refine wpAny_bind (slice_wp hl fun v tk2 hv2 => ?_)
        refine wpAny_bind (put_wp (s := { s with heap := h, toks := tk2 }) hp (by omega) fun h' hp' sb => ?_)
        exact joined (stay hk sb) hp' (ha.snoc hv2) (by simp only [List.length_append, List.length_cons, List.length_nil]; omega)
      · have hd' : ¬ (done : Int).toNat < l.length := hd
        rw [if_neg hd, List.append_nil] at hj hR joined
        rw [if_neg hd']
        exact joined hk hp ha (by omega)
    · rename_i m e1
      split at e
      · rename_i hm
        refine wpAny_bind (step e1 ?_)
        dsimp only
        have turn : ∀ {h' : Heap} {tk' : Nat} {vs' : List Value} {acc' : List (List Nat)} {A' : Around}, (∀ b o, h₁.get? b = some o → h'.get? b = some o) → h'.PlainList P vs'.toArray → All2 isText acc' vs' → vs'.length ≤ 950 → acc'.length + 1 + 2 * f ≤ 900 →
            subR f l m.handed m.handed (m.handed == m.start) (acc' ++ [[13, 10]]) = some res →
            wpAny (model prog w) A' (updateSeq P (fun x => x.push (.str ⟨#[13, 10]⟩ tc)) >>= fun _ => (again (.builtin "re.Pattern.sub.loop" (subArgs T P l t tc (n + 1) m.handed m.handed (m.handed == m.start))) : Sem Fin))
              (fun fin s' => match fin with | .done f => R (.ok f) s' | .again c' => c'.quiet = true ∧ codeAny (model prog w) A c' R s') (fun e s' => R (.error e) s') { s with heap := h', toks := tk' } := fun {h' tk' vs' acc' A'} hk' hp' ha' hz' hz2 e' => by
          refine wpAny_bind (put_wp (s := { s with heap := h', toks := tk' }) hp' (by omega) fun h'' hp'' sb => wpAny_pure ?_)
          refine ⟨loop_quiet _, ?_⟩
          exact sub_loop (tc := tc) hT hl hP hj hR e' (by simp only [List.length_append, List.length_cons, List.length_nil]; omega) (ha'.snoc ⟨tc, rfl⟩) (stay hk' sb) hp''
        by_cases hd : done < m.start
        · have hd' : (done : Int).toNat < m.start := hd
          rw [if_pos hd] at e
          rw [if_pos hd']
          refine wpAny_bind (slice_wp hl fun v tk2 hv2 => ?_)
          refine wpAny_bind (put_wp (s := { s with heap := h, toks := tk2 }) hp (by omega) fun h' hp' sb => ?_)
          exact turn (stay hk sb) hp' (ha.snoc hv2) (by simp only [List.length_append, List.length_cons, List.length_nil]; omega) (by simp only [List.length_append, List.length_cons, List.length_nil]; omega) e
        · have hd' : ¬ (done : Int).toNat < m.start := hd
          rw [if_neg hd, List.append_nil] at e
          rw [if_neg hd']
          exact turn hk hp ha (by omega) (by omega) e
      · cases e
end
end Mine

-- R4
namespace Mine.Rx
open PySem.Sre in
/-- the machine amid a match that began at s -/
noncomputable def mk (t : Array Nat) (lim s : Nat) (mA : Bool) (pc pos handed : Nat) (om : Bool) (fr : List Sre.Frame) (wt : Nat) (ans : Option Bool) (seen : Sre.Seen) : Sre.M :=
  { code := codeW.toArray, text := t, lim := lim, start := s, lastStart := lim, mustAdvance := mA, pc := pc, pos := pos, handed := handed, outermost := om, marks := #[], frames := fr, weight := wt, answer := ans, seen := seen }
variable {t : Array Nat} {lim s pos h : Nat} {fr : List Sre.Frame} {wt : Nat} {seen : Sre.Seen}
noncomputable def fStart (s : Nat) : Sre.Frame := { wait := .nextStart, pc := 10, pos := s, outermost := true }
noncomputable def kept0 : Sre.Kept := { lastmark := -1, lastindex := -1, whole := false, marks := #[] }
noncomputable def fAlt (pc s : Nat) : Sre.Frame := { wait := .nextBranch, pc := pc, pos := s, outermost := true, kept := kept0 }
noncomputable def fNot (s : Nat) : Sre.Frame := { wait := .lookNot, pc := 26, pos := s, outermost := true, kept := kept0 }
theorem s_branch : (mk t lim s false 10 s s true [fStart s] 1 none seen).step = mk t lim s false 12 s s true [fAlt 11 s, fStart s] 2 none (seen.add 7) := by kernel_rfl
theorem s_lit {k : Nat} {b : Bool} (hk : k = 12 ∨ k = 14 ∨ k = 19 ∨ k = 24 ∨ k = 29) (hb : (decide (pos < lim) && (t.getD pos 0 == codeW.getD (k + 1) 0)) = b) :
    (mk t lim s false k pos h (k != 29) fr wt none seen).step = if b then mk t lim s false (k + 2) (pos + 1) h (k != 29) fr wt none (seen.add 16) else mk t lim s false k pos h (k != 29) fr wt (some false) (seen.add 16) := by
  subst hb
  have key : ∀ k : Nat, k = 12 ∨ k = 14 ∨ k = 19 ∨ k = 24 ∨ k = 29 → (mk t lim s false k pos h (k != 29) fr wt none seen).step = if pos ≥ lim then mk t lim s false k pos h (k != 29) fr wt (some false) (seen.add 16) else
      match t.getD pos 0 == codeW.getD (k + 1) 0 with
      | false => mk t lim s false k pos h (k != 29) fr wt (some false) (seen.add 16)
      | true => mk t lim s false (k + 2) (pos + 1) h (k != 29) fr wt none (seen.add 16) := by
    intro k hk
    rcases hk with rfl | rfl | rfl | rfl | rfl <;> kernel_rfl
  refine (key k hk).trans ?_
  by_cases hp : pos < lim
  · rw [if_neg (by omega)]
    cases hc : t.getD pos 0 == codeW.getD (k + 1) 0 <;> simp [hp]
  · rw [if_pos (by omega)]
    simp [hp]
theorem s_jump {k : Nat} (hk : k = 16 ∨ k = 21 ∨ k = 32) : (mk t lim s false k pos h true fr wt none seen).step = mk t lim s false 35 pos h true fr wt none (seen.add 15) := by
  rcases hk with rfl | rfl | rfl <;> kernel_rfl
theorem s_done : (mk t lim s false 35 pos h true fr wt none seen).step = mk t lim s false 35 pos pos true fr wt (some true) (seen.add 1) := by kernel_rfl
/-- an alternative held -/
theorem s_yes {k j : Nat} : (mk t lim s false k pos h true [fAlt j s, fStart s] 2 (some true) seen).step = mk t lim s false j s h true [fStart s] 1 (some true) seen := by kernel_rfl
theorem s_top {k : Nat} : (mk t lim s false k pos h true [fStart s] 1 (some true) seen).step = mk t lim s false 10 s h true [] 0 (some true) seen := by kernel_rfl
theorem s_end {k : Nat} : (mk t lim s false k pos h true [] 0 (some true) seen).step = { mk t lim s false k pos h true [] 0 (some true) seen with outcome := some .matched } := by kernel_rfl
/-- an alternative didn't hold -/
theorem s_no1 {k : Nat} : (mk t lim s false k pos h true [fAlt 11 s, fStart s] 2 (some false) seen).step = mk t lim s false 19 s s true [fAlt 18 s, fStart s] 2 none seen := by kernel_rfl
theorem s_no2 {k : Nat} : (mk t lim s false k pos h true [fAlt 18 s, fStart s] 2 (some false) seen).step = mk t lim s false 24 s s true [fAlt 23 s, fStart s] 2 none seen := by kernel_rfl
theorem s_not : (mk t lim s false 26 (s + 1) h true [fAlt 23 s, fStart s] 2 none seen).step = mk t lim s false 29 (s + 1) (s + 1) false [fNot (s + 1), fAlt 23 s, fStart s] 3 none (seen.add 5) := by kernel_rfl
theorem s_notno {k : Nat} : (mk t lim s false k pos h false [fNot (s + 1), fAlt 23 s, fStart s] 3 (some false) seen).step = mk t lim s false 32 (s + 1) h true [fAlt 23 s, fStart s] 2 none seen := by kernel_rfl
noncomputable def iter : Nat → Sre.M → Sre.M
  | 0, m => m
  | n + 1, m => iter n m.step
theorem step_stable {m : Sre.M} (ho : m.outcome.isSome = true) : m.step = m := by unfold Sre.M.step; rw [if_pos ho]
theorem iter_stable {m : Sre.M} (ho : m.outcome.isSome = true) : ∀ n, iter n m = m
  | 0 => rfl
  | n + 1 => by unfold iter; rw [step_stable ho]; exact iter_stable ho n
theorem iter_add {m : Sre.M} : ∀ a b, iter (a + b) m = iter b (iter a m)
  | 0, b => by rw [Nat.zero_add]; rfl
  | a + 1, b => by rw [show a + 1 + b = (a + b) + 1 by omega]; exact iter_add (m := m.step) a b
theorem runFor_iter : ∀ (n : Nat) (m : Sre.M), m.runFor n = iter n m
  | 0, m => rfl
  | n + 1, m => by
    unfold Sre.M.runFor iter
    split
    · rename_i ho
      rw [step_stable ho, iter_stable ho]
    · exact runFor_iter n m.step
theorem turns_of : ∀ {n k : Nat} {m m' : Sre.M}, iter k m = m' → m'.outcome.isSome = true → k ≤ 4 * n → 0 < n → runTurns n m = some m'
  | 0, _, _, _, _, _, _, h => absurd h (by omega)
  | n + 1, k, m, m', e, ho, hk, _ => by
    unfold runTurns
    rw [runFor_iter]
    by_cases h4 : k ≤ 4
    · have : iter 4 m = m' := by
        rw [show 4 = k + (4 - k) by omega, iter_add, e, iter_stable ho]
      rw [this, if_pos ho]
    · have e2 : iter (k - 4) (iter 4 m) = m' := by rw [← iter_add, show 4 + (k - 4) = k by omega]; exact e
      split
      · rename_i h1
        rw [iter_stable h1] at e2
        rw [e2]
      · exact turns_of e2 ho (by omega) (by omega)
theorem end_of {k : Nat} {m m' : Sre.M} (e : iter k m = m') (ho : m'.outcome = some .matched) (hk : k ≤ 40) : endOf m = some (some m') := by
  unfold endOf
  rw [turns_of (n := 100) e (by rw [ho]; rfl) (by omega) (by omega)]
  dsimp only
  rw [ho]
noncomputable def seen0 : Sre.Seen := ({} : Sre.Seen).add 14
noncomputable def base (t : Array Nat) (lim s : Nat) : Sre.M := { code := codeW.toArray, text := t, lim := lim, start := s, pc := 10, pos := s, handed := s, marks := #[], seen := seen0 }
theorem search_eq : Sre.forSearch codeW.toArray t 0 s lim false = if (decide (s > lim) || decide (lim - s < 1)) = true then (base t lim s).say false else { base t lim s with lastStart := lim }.attemptFrom s true := by kernel_rfl
theorem from_eq : ({ base t lim s with lastStart := lim } : Sre.M).attemptFrom s true = match Sre.M.admitted { base t lim s with lastStart := lim } (lim + 1 - s) s seen0 with
    | .ok (some s, seen) => ({ base t lim s with lastStart := lim, mustAdvance := false, seen } : Sre.M).attemptAt s true
    | .ok (none, seen) => ({ base t lim s with lastStart := lim, seen } : Sre.M).say false
    | .error why => ({ base t lim s with lastStart := lim } : Sre.M).stick why := by kernel_rfl
theorem set_eq {a : Nat} (ha : (a == 10 || a == 13) = true) : ∃ seen', Sre.inSet codeW.toArray a 36 5 true seen = .ok (true, seen') := by
  have key : Sre.inSet codeW.toArray a 36 5 true seen = if (a == 10) = true then .ok (true, seen.add 16) else if (a == 13) = true then .ok (true, (seen.add 16).add 16) else .ok (false, ((seen.add 16).add 16).add 0) := by kernel_rfl
  rw [key]
  by_cases h1 : (a == 10) = true
  · exact ⟨_, by rw [if_pos h1]⟩
  · rw [if_neg h1]
    rw [Bool.or_eq_true] at ha
    rcases ha with ha | ha
    · exact absurd ha h1
    · exact ⟨_, by rw [if_pos ha]⟩
theorem adm_at {m : Sre.M} {k : Nat} {seen' : Sre.Seen} (hs : s < m.lim) (e : Sre.inSet m.code (m.text.getD s 0) m.code.size 5 true seen = .ok (true, seen')) : Sre.M.admitted m (k + 1) s seen = .ok (some s, seen') := by
  unfold Sre.M.admitted
  rw [if_neg (by omega), e]
theorem search_at (hs : s < lim) (ha : (t.getD s 0 == 10 || t.getD s 0 == 13) = true) : ∃ seen, Sre.forSearch codeW.toArray t 0 s lim false = mk t lim s false 10 s s true [fStart s] 1 none seen := by
  rw [search_eq, if_neg (by simp only [Bool.or_eq_true, decide_eq_true_eq]; omega), from_eq]
  obtain ⟨seen', e⟩ := set_eq (seen := seen0) ha
  have e2 : Sre.M.admitted { base t lim s with lastStart := lim } (lim + 1 - s) s seen0 = .ok (some s, seen') := by
    rw [show lim + 1 - s = (lim - s) + 1 by omega]
    exact adm_at hs e
  rw [e2]
  exact ⟨seen', by kernel_rfl⟩
theorem next_end (hs : t.size ≤ s) : nextF t s false = some none := by
  unfold nextF
  rw [search_eq, if_pos (by simp only [Bool.or_eq_true, decide_eq_true_eq]; omega)]
  kernel_rfl
theorem go {n : Nat} {m m' r : Sre.M} (e : m.step = m') (k : iter n m' = r) : iter (n + 1) m = r := by subst e; exact k
theorem lit_yes {k : Nat} (hk : k = 12 ∨ k = 14 ∨ k = 19 ∨ k = 24) (hp : pos < lim) (hc : (t.getD pos 0 == codeW.getD (k + 1) 0) = true) :
    (mk t lim s false k pos h true fr wt none seen).step = mk t lim s false (k + 2) (pos + 1) h true fr wt none (seen.add 16) := by
  have e := s_lit (t := t) (lim := lim) (s := s) (pos := pos) (h := h) (fr := fr) (wt := wt) (seen := seen) (k := k) (b := true) (by omega) (by rw [hc]; simp [hp])
  rcases hk with rfl | rfl | rfl | rfl <;> exact e
theorem lit_no {k : Nat} (hk : k = 12 ∨ k = 14 ∨ k = 19 ∨ k = 24) (hb : (decide (pos < lim) && (t.getD pos 0 == codeW.getD (k + 1) 0)) = false) :
    (mk t lim s false k pos h true fr wt none seen).step = mk t lim s false k pos h true fr wt (some false) (seen.add 16) := by
  have e := s_lit (t := t) (lim := lim) (s := s) (pos := pos) (h := h) (fr := fr) (wt := wt) (seen := seen) (k := k) (b := false) (by omega) hb
  rcases hk with rfl | rfl | rfl | rfl <;> exact e
theorem not_no (hb : (decide (pos < lim) && (t.getD pos 0 == codeW.getD (29 + 1) 0)) = false) :
    (mk t lim s false 29 pos h false fr wt none seen).step = mk t lim s false 29 pos h false fr wt (some false) (seen.add 16) :=
  s_lit (k := 29) (b := false) (by omega) hb
theorem next_lf (hs : s < t.size) (h0 : t.getD s 0 = 10) : ∃ m, nextF t s false = some (some m) ∧ m.start = s ∧ m.handed = s + 1 := by
  obtain ⟨seen, e⟩ := search_at (lim := t.size) hs (by rw [h0]; rfl)
  unfold nextF
  rw [e]
  refine ⟨_, end_of (k := 9) (go s_branch (go (lit_no (.inl rfl) (by rw [h0]; simp [codeW])) (go s_no1 (go (lit_yes (by omega) hs (by rw [h0]; rfl)) (go (s_jump (by omega)) (go s_done (go s_yes (go s_top (go s_end rfl))))))))) rfl (by omega), rfl, rfl⟩
theorem next_crlf (hs : s + 1 < t.size) (h0 : t.getD s 0 = 13) (h1 : t.getD (s + 1) 0 = 10) : ∃ m, nextF t s false = some (some m) ∧ m.start = s ∧ m.handed = s + 2 := by
  obtain ⟨seen, e⟩ := search_at (t := t) (s := s) (lim := t.size) (by omega) (by rw [h0]; rfl)
  unfold nextF
  rw [e]
  refine ⟨_, end_of (k := 8) (go s_branch (go (lit_yes (by omega) (by omega) (by rw [h0]; rfl)) (go (lit_yes (by omega) hs (by rw [h1]; rfl)) (go (s_jump (by omega)) (go s_done (go s_yes (go s_top (go s_end rfl)))))))) rfl (by omega), rfl, rfl⟩
theorem next_cr (hs : s < t.size) (h0 : t.getD s 0 = 13) (h1 : (decide (s + 1 < t.size) && (t.getD (s + 1) 0 == 10)) = false) : ∃ m, nextF t s false = some (some m) ∧ m.start = s ∧ m.handed = s + 1 := by
  obtain ⟨seen, e⟩ := search_at (lim := t.size) hs (by rw [h0]; rfl)
  unfold nextF
  rw [e]
  refine ⟨_, end_of (k := 16) (go s_branch (go (lit_yes (by omega) hs (by rw [h0]; rfl)) (go (lit_no (by omega) h1) (go s_no1 (go (lit_no (by omega) (by rw [h0]; simp [codeW])) (go s_no2 (go (lit_yes (by omega) hs (by rw [h0]; rfl)) (go s_not (go (not_no h1) (go s_notno (go (s_jump (by omega)) (go s_done (go s_yes (go s_top (go s_end rfl))))))))))))))) rfl (by omega), rfl, rfl⟩
end Mine.Rx

-- R5
namespace Mine.Rx
noncomputable def fixL : List Nat → List Nat
  | [] => []
  | 13 :: 10 :: r => 13 :: 10 :: fixL r
  | _ :: r => 13 :: 10 :: fixL r
noncomputable def outL : List Nat → List (List Nat)
  | [] => []
  | 13 :: 10 :: r => [13, 10] :: outL r
  | _ :: r => [13, 10] :: outL r
noncomputable def feeds (l : List Nat) : Bool := l.all fun a => a == 10 || a == 13
theorem flat_out : ∀ l : List Nat, flatL (outL l) = fixL l
  | [] => rfl
  | 13 :: 10 :: r => by
    have := flat_out r
    simp only [outL, fixL, flatL, this]
    rfl
  | a :: r => by
    unfold outL fixL
    split
    · rename_i h; cases h
    · rename_i r' h
      cases h
      simp only [flatL, flat_out r']
      rfl
    · rename_i r' h h'
      cases h'
      simp only [flatL, flat_out r]
      rfl
theorem sub_run {l : List Nat} (hl : l.length ≤ 1000) : ∀ (n : Nat) {r : List Nat} {s f : Nat} {acc : List (List Nat)}, r.length ≤ n → l.drop s = r → s ≤ l.length → n < f → feeds r = true → subR f l s s false acc = some (acc ++ outL r)
  | _, [], s, f + 1, acc, _, hd, hs, _, _ => by
    have h1 : l.length ≤ s := by simpa using hd
    unfold subR
    rw [next_end (by simpa using h1)]
    dsimp only
    rw [if_neg (by omega)]
    rfl
  | 0, _ :: _, _, _, _, h, _, _, _, _ => by simp at h
  | n + 1, a :: r, s, f + 1, acc, hn, hd, hs, hf, ha => by
    have h1 : l[s]? = some a := by
      have := congrArg (fun x => x[0]?) hd
      simpa using this
    have h2 : l.drop (s + 1) = r := by
      have := congrArg (fun x => x.drop 1) hd
      simpa [List.drop_drop] using this
    have hs1 : s < l.length := (List.getElem?_eq_some_iff.mp h1).1
    have hsz : s < l.toArray.size := by simpa using hs1
    have g0 : l.toArray.getD s 0 = a := by
      simp [Array.getD, hs1]
      have := (List.getElem?_eq_some_iff.mp h1).2
      simpa using this
    have g1 : ∀ b r', r = b :: r' → s + 1 < l.length ∧ l.toArray.getD (s + 1) 0 = b := fun b r' e => by
      have h3 : l[s + 1]? = some b := by
        have := congrArg (fun x => x[0]?) (h2.trans e)
        simpa using this
      have h4 := (List.getElem?_eq_some_iff.mp h3).1
      refine ⟨h4, ?_⟩
      simp [Array.getD, h4]
      have := (List.getElem?_eq_some_iff.mp h3).2
      simpa using this
    unfold feeds at ha
    rw [List.all_cons, Bool.and_eq_true] at ha
    have turn : ∀ {k : Nat} {r' : List Nat}, (∃ m, nextF l.toArray s false = some (some m) ∧ m.start = s ∧ m.handed = s + k) → 0 < k → l.drop (s + k) = r' → s + k ≤ l.length → r'.length ≤ n → feeds r' = true → subR (f + 1) l s s false acc = some (acc ++ ([13, 10] :: outL r')) := by
      rintro k r' ⟨m, e1, e2, e3⟩ hk hd' hs' hn' ha'
      unfold subR
      rw [e1]
      dsimp only
      rw [if_pos (by omega), e2, e3, if_neg (by omega)]
      have e4 : (s + k == s) = false := by simp; omega
      rw [e4, List.append_nil, sub_run hl n (f := f) hn' hd' hs' (by omega) ha', List.append_assoc]
      rfl
    have one : (∃ m, nextF l.toArray s false = some (some m) ∧ m.start = s ∧ m.handed = s + 1) → subR (f + 1) l s s false acc = some (acc ++ ([13, 10] :: outL r)) := fun hm => turn hm (by omega) h2 (by omega) (by simpa using hn) ha.2
    rcases Bool.or_eq_true_iff.mp ha.1 with h | h
    · have h := beq_iff_eq.mp h
      subst h
      rw [one (next_lf hsz g0)]
      rfl
    · have h := beq_iff_eq.mp h
      subst h
      cases r with
      | nil =>
        rw [one (next_cr hsz g0 ?_)]
        · rfl
        · have : l.length ≤ s + 1 := by simpa using h2
          simp; omega
      | cons b r' =>
        obtain ⟨h5, h6⟩ := g1 b r' rfl
        by_cases hb : b = 10
        · subst hb
          have h7 : l.drop (s + 2) = r' := by
            have := congrArg (fun x => x.drop 1) h2
            simpa [List.drop_drop] using this
          have a2 := ha.2
          rw [List.all_cons, Bool.and_eq_true] at a2
          rw [turn (k := 2) (next_crlf (by simpa using h5) g0 h6) (by omega) h7 (by omega) (by simp at hn; omega) a2.2]
          rfl
        · rw [one (next_cr hsz g0 ?_)]
          · have : outL (13 :: b :: r') = [13, 10] :: outL (b :: r') := by
              conv => lhs; unfold outL
              split
              · rename_i h; cases h
              · rename_i h; cases h; exact absurd rfl hb
              · rename_i h h'; cases h'; rfl
            rw [this]
          · rw [h6]; simp [hb]
theorem out_len : ∀ l : List Nat, (outL l).length ≤ l.length
  | [] => Nat.le_refl _
  | 13 :: 10 :: r => by have := out_len r; simp only [outL, List.length_cons]; omega
  | a :: r => by
    unfold outL
    split
    · rename_i h; cases h
    · rename_i r' h; cases h; have := out_len r'; simp only [List.length_cons]; omega
    · rename_i h h'; cases h'; have := out_len r; simp only [List.length_cons]; omega
end Mine.Rx

-- L1
namespace Mine

noncomputable def fs : List Nat := [70, 102, 8497, 120073, 120125, 119813, 119865, 119917, 120021, 120177, 120229, 120281, 120333, 120385, 120437]
/-- what the dict says of the signs -/
noncomputable def b3T : List (Int × Option (List Nat)) := [(70, none), (102, none), (64256, some [102, 102]), (8497, some [102]), (120073, some [102]), (120125, some [102]), (119813, some [102]), (119865, some [102]), (119917, some [102]), (120021, some [102]), (120177, some [102]), (120229, some [102]), (120281, some [102]), (120333, some [102]), (120385, some [102]), (120437, some [102])]
structure Lw (c : Cx) (D : Ad) : Prop where
  names : ∀ h, c.ok h → ∃ mg mb, h.Ns mainGlobals mg ∧ h.Ns builtinsNs mb ∧ (∀ x y, (glist D).lookup x = some y → mg x = some y) ∧ (∀ x y, blist.lookup x = some y → mg x = none ∧ mb x = some y)
  fix : FnAt c D.fix (F_fix D)
  int2 : FnAt c D.int2 (F_int2 D)
  b3 : FnAt c D.b3 (F_b3 D)
  fib : FnAt c D.fib (F_fib D)
  spelled : FnAt c D.spelled (F_spelled D)
  folds : FnAt c D.folds (F_folds D)
  lengths : FnAt c D.lengths (F_lengths D)
  product : FnAt c D.product (F_product D)
  pat : ∀ h, c.ok h → PatAt h D.twin
  dict : ∀ h, c.ok h → ∃ f, h.MapOf (intKind c.prog c.w) D.dict f ∧ ∀ x ∈ b3T, match x.2 with
    | none => f x.1 = none
    | some l => ∃ t, f x.1 = some (.str ⟨l.toArray⟩ t)
  dictNe : (D.dict == sysModules) = false

theorem Room.few {A : Around} {k : Nat} (r : Room A k) : A.units < cLine := by have := r.units; omega
theorem Room.more {A : Around} {k : Nat} (r : Room A k) : A.units + 64 < cLine := by have := r.units; omega
theorem Room.deep {A : Around} {k : Nat} (r : Room A (k + 1)) (e : Env) : Room (A.deeper e) k := ⟨r.calm, by have := r.depth; show A.depth + 1 + k ≤ _; omega, by have := r.units; show A.units + 3 + 8 * k + 100 ≤ _; omega⟩
theorem Room.mono {A : Around} {k j : Nat} (r : Room A k) (h : j ≤ k) : Room A j := ⟨r.calm, by have := r.depth; omega, by have := r.units; omega⟩
theorem Room.go {A : Around} {k : Nat} (r : Room A (k + 1)) : A.depth < recursionLimit := by have := r.depth; omega
section
variable {c : Cx} {A : Around} {sl : List Slot} {en : Env} {D : Ad}
theorem Says.bl (w : Lw c D) {x : Str} {pos : Pos} {y : Value} (hm : blist.lookup x = some y) (hk : en.scope.kind = .function) (hx : en.kindOf x = some .globalImplicit) (hg : en.globals = mainGlobals) (hb : en.builtins = builtinsNs) (hd : (x == ("__debug__" : Str)) = false) :
    Says c A (eval (.Name x pos) en) y :=
  Says.builtin hk hx hg hb (fun h ok => let ⟨mg, mb, n1, n2, _, h2⟩ := w.names h ok; ⟨mg, mb, n1, (h2 x y hm).1, n2, (h2 x y hm).2⟩) hd
theorem Says.gl (w : Lw c D) {x : Str} {pos : Pos} {y : Value} (hm : (glist D).lookup x = some y) (hk : en.scope.kind = .function) (hx : en.kindOf x = some .globalImplicit) (hg : en.globals = mainGlobals) (hd : (x == ("__debug__" : Str)) = false) :
    Says c A (eval (.Name x pos) en) y :=
  Says.global hk hx hg (fun h ok => let ⟨mg, _, n1, _, h1, _⟩ := w.names h ok; ⟨mg, n1, h1 x y hm⟩) hd
theorem Acc.loc {x : Str} {i : Nat} (k : en.scope.kind = .function) (h1 : en.kindOf x = some .local) (h2 : sl[i]? = some (.ns en.locals x)) : Acc en sl x i := ⟨k, .inl ⟨h1, h2⟩⟩
theorem Acc.cel {x : Str} {i : Nat} (k : en.scope.kind = .function) (h1 : en.kindOf x = some .cell) (h2 : en.cells.lookup x = some ((en.cells.lookup x).getD 0)) (h3 : sl[i]? = some (.cell ((en.cells.lookup x).getD 0))) : Acc en sl x i := ⟨k, .inr (.inl ⟨_, h1, h2, h3⟩)⟩
theorem AccS.loc {x : Str} {i : Nat} (k : en.scope.kind = .function) (h1 : en.kindOf x = some .local) (h2 : sl[i]? = some (.ns en.locals x)) : AccS en sl x i := ⟨k, .inl ⟨h1, h2⟩⟩
theorem AccS.cel {x : Str} {i : Nat} (k : en.scope.kind = .function) (h1 : en.kindOf x = some .cell) (h2 : en.cells.lookup x = some ((en.cells.lookup x).getD 0)) (h3 : sl[i]? = some (.cell ((en.cells.lookup x).getD 0))) : AccS en sl x i := ⟨k, .inr ⟨_, h1, h2, h3⟩⟩
end

end Mine

-- L2
namespace Mine
section
variable {prog : Program} {w : World} {A : Around} {E : Value → Shared → Prop} {s : Shared}
theorem named_eq (a b : Value) : Builtin.Re.reNamed "re.Pattern.sub" "sub" ["repl", "string", "count"] 2 [a, b] [] = pure [some a, some b, none] := by kernel_rfl
theorem str_call : typeLookup (.type "str") "__call__" = pure none := by rw [typeLookup_type, builtinLookup_eq_fast]; kernel_rfl
theorem sub_call {T : Addr} {l : List Nat} {t tc : Tok} {f : Nat} {res : List (List Nat)} {Q : Value → Shared → Prop} (hT : PatAt s.heap T) (hl : l.length ≤ 10000) (hf : f ≤ 400) (e : subR f l 0 0 false [] = some res) (hj : JoinOk ⟨#[]⟩ (res.map fun a => ⟨a.toArray⟩) = true)
    (q : ∀ h' t' tk, (∀ b o, s.heap.get? b = some o → h'.get? b = some o) → Q (.str (Txt.join ⟨#[]⟩ (res.map fun a => ⟨a.toArray⟩)) t') { s with heap := h', toks := tk }) :
    wpAny (model prog w) A (call (.builtin "re.Pattern.sub") [.ref T, .str ⟨#[13, 10]⟩ tc, .str ⟨l.toArray⟩ t]) Q E s := by
  obtain ⟨U, p, osl, h1, o, n, h2, h3⟩ := id hT.at_
  refine wpAny_call (codeAny_call_builtin pat_slot.plain pat_entry (pat_slot.check _ _ _ _ _ _ _ _ ⟨_, h1, rfl⟩ (pat_args _ _ _) ?_))
  have k : ∀ b o, s.heap.get? b = some o → (s.heap.push { cls := .type "list", dict := none, data := .seq ([] : List Value).toArray }).get? b = some o := fun b o e => Heap.get?_push_of_some _ e
  have hP : s.heap.get? s.heap.objs.size = none := by
    cases hq : s.heap.get? s.heap.objs.size with
    | none => rfl
    | some o => exact absurd (Heap.lt_size hq) (Nat.lt_irrefl _)
  show wpAny (model prog w) A.in1 (Builtin.Re.reSubstitute "re.Pattern.sub" "sub" false ⟨[.ref T, .str ⟨#[13, 10]⟩ tc, .str ⟨l.toArray⟩ t], []⟩) _ _ _
  unfold Builtin.Re.reSubstitute
  dsimp only
  refine wpAny_bind (wpAny_of_eq (named_eq _ _) ?_)
  dsimp only
  refine wpAny_bind (wpAny_pure ?_)
  refine wpAny_bind (wpAny_specialOf_val (T := "str") rfl str_call ?_)
  simp only [Option.isSome_none, Bool.false_eq_true, if_false]
  refine wpAny_bind (wpAny_pure ?_)
  dsimp only
  refine wpAny_bind (wpAny_pure ?_)
  have hc : (!(#[13, 10] : Array Nat).contains 92) = true := by decide +kernel
  rw [if_pos hc]
  refine wpAny_bind (wpAny_pure ?_)
  refine wpAny_bind (wpAny_holding (whole_wp hT ?_))
  show wpAny (model prog w) A.in1 (newList [] >>= fun L => again (.builtin "re.Pattern.sub.loop" ⟨[.ref T, .str ⟨l.toArray⟩ t, .str ⟨#[13, 10]⟩ tc, rawInt 0, rawInt 0, rawInt 0, rawInt 0, rawInt 0, .bool false, L, .bool false], []⟩)) _ _ s
  refine wpAny_bind (wpAny_newList (wpAny_pure ⟨loop_quiet _, ?_⟩))
  exact sub_loop (s := { s with heap := s.heap.push { cls := .type "list", dict := none, data := .seq ([] : List Value).toArray } }) (tc := tc) (done := 0) (start := 0) (n := 0) (must := false) (acc := []) (vs := []) hT hl hP hj
    (fun h' t' tk kk => q h' t' tk kk) e (by simp only [List.length_nil]; omega) .nil k ⟨0, Heap.get?_push_size _ rfl⟩
end
end Mine

-- L3
namespace Mine
open Rx (fixL outL feeds)
theorem out_fold : ∀ (l : List Nat) (a : Nat), List.foldl (fun (x : Nat) (y : Str) => x + y.length + 0) a ((outL l).map fun a => (⟨a.toArray⟩ : Str)) = a + 2 * (outL l).length
  | [], a => by simp [outL]
  | 13 :: 10 :: r, a => by
    have e : outL (13 :: 10 :: r) = [13, 10] :: outL r := rfl
    rw [e, List.map_cons, List.foldl_cons, out_fold r, List.length_cons]
    show a + 2 + 0 + _ = _
    omega
  | c :: r, a => by
    have key : ∃ r', outL (c :: r) = [13, 10] :: outL r' ∧ sizeOf r' < sizeOf (c :: r) := by
      conv => enter [1, r', 1, 1]; unfold outL
      split
      · rename_i h; cases h
      · rename_i r' h; cases h; exact ⟨r', rfl, by simp; omega⟩
      · rename_i h h'; cases h'; exact ⟨r, rfl, by simp; omega⟩
    obtain ⟨r', e, hlt⟩ := key
    rw [e, List.map_cons, List.foldl_cons, out_fold r', List.length_cons]
    show a + 2 + 0 + _ = _
    omega
termination_by l => sizeOf l
noncomputable def okText (l : List Nat) : Bool := feeds l && decide (l.length ≤ 100)
theorem out_join {l : List Nat} (h : l.length ≤ 100) : JoinOk ⟨#[]⟩ ((outL l).map fun a => ⟨a.toArray⟩) = true := by
  unfold JoinOk
  rw [List.foldl_toArray]
  have := out_fold l 0
  have h2 := Rx.out_len l
  show (!Builtin.Str.tooLong (List.foldl (fun (x : Nat) (y : Str) => x + y.length + 0) 0 _)) = true
  rw [this]
  simp only [Builtin.Str.tooLong, sizeLine_eq, Bool.not_eq_true', decide_eq_false_iff_not]
  omega
noncomputable def fixF : St → Option (Fl × St) := fun σ => match σ.v[0]? with
  | some (some (V.str l)) => if okText l = true then some (.ret (.str (fixL l)), σ) else none
  | _ => none
noncomputable def subF (i : Nat) : St → Option (V × St) := fun σ => match getF i σ with
  | some (.str l, σ₁) => if okText l = true then some (.str (fixL l), σ₁) else none
  | _ => none
section
variable {c : Cx} {A : Around} {sl : List Slot} {en : Env} {D : Ad}
theorem EvE.sub {x : Str} {p p2 p3 apos pos : Pos} {i : Nat} (w : Lw c D) (a : Acc en sl x i) (hk : en.scope.kind = .function) (hx : en.kindOf "_twin_re_1" = some .globalImplicit) (hx2 : en.kindOf "CRLF" = some .globalImplicit) (hg : en.globals = mainGlobals)
    (hb : attributeBase (.Name "_twin_re_1" p) "sub" en (eval (.Name "_twin_re_1" p) en) = eval (.Name "_twin_re_1" p) en := by rfl) (hl : (apos.endLine == pos.line) = true := by rfl)
    (hs : starEach [.Name "CRLF" p2, .Name x p3] en = [(false, eval (.Name "CRLF" p2) en), (false, eval (.Name x p3) en)] := by rfl) (hd : (x == ("__debug__" : Str)) = false := by decide) :
    EvE c A sl (eval (.Call (.Attribute (.Name "_twin_re_1" p) "sub" apos) [.Name "CRLF" p2, .Name x p3] [] pos) en) (subF i) := by
  intro h₀ α σ s v σ' Q E ok I e q
  unfold subF at e
  split at e
  · rename_i l σ₁ e1
    split at e
    · rename_i ht
      cases e
      obtain ⟨ht1, ht2⟩ := Bool.and_eq_true_iff.mp ht
      have ht2 := of_decide_eq_true ht2
      have e2 := Rx.sub_run (l := l) (by omega) 100 (s := 0) (f := 101) (acc := []) ht2 rfl (by omega) (by omega) ht1
      rw [List.nil_append] at e2
      refine wpAny_Call_method_late hb (by rw [hs]; rfl) hl rfl ?_
      refine (Says.gl w (by rfl) hk hx hg (by rfl)) _ _ _ _ ok I.keep ?_
      have P := w.pat _ ok
      obtain ⟨U, p', osl, h1, _⟩ := id P.at_
      refine ⟨"re.Pattern", "re.Pattern.sub", pat_plain, pat_slot, pat_type, ⟨_, I.keep _ _ h1, rfl⟩, fun a' h => ⟨_, by cases h; exact I.keep _ _ h1, rfl⟩, ?_⟩
      refine callWith_method1 (rest := [.Name x p3]) (wpAny_items_cons ?_ hs) hs rfl
      refine (Says.gl w (x := "CRLF") (by rfl) hk hx2 hg (by rfl)) _ _ _ _ ok I.keep ?_
      refine wpAny_items_cons (rest := []) ?_ rfl
      refine (EvE.name a hd) _ _ _ _ _ _ _ _ ok I e1 fun α₁ y h₁ tk₁ p₁ r₁ I₁ => wpAny_items_nil ?_
      obtain ⟨t, rfl⟩ := r₁
      refine sub_call (s := { s with heap := h₁, toks := tk₁ }) (P.keeps fun b o e => I₁.keep b o e) (by omega) (by decide) e2 (out_join ht2) fun h' t' tk kk => ?_
      rw [join_flat, Rx.flat_out]
      exact q α₁ _ h' tk p₁ ⟨t', rfl⟩ (I₁.keeps kk)
    · cases e
  · cases e
end
end Mine

-- L4
namespace Mine
section
variable {c : Cx} {A : Around} {sl : List Slot} {en : Env} {D : Ad}
noncomputable def ordV (_ : List O) : V → Option V
  | .str [a] => some (.int 0 a)
  | _ => none
theorem OpH.ord : OpH c A (fun x => call (.builtin "ord") [x]) ordV := by
  intro h₀ sl α σ s a v x Q E ok I r e q
  unfold ordV at e
  split at e
  · obtain ⟨t, rfl⟩ := r
    cases e
    exact P.ord_of_char (q _ s.heap _ ⟨s.toks, by simp⟩ fun _ _ e => e)
  · cases e
noncomputable def getV : V → Option V
  | .int a b => if a = 0 then match b3T.lookup b with
    | some none => some .nil
    | some (some l) => some (.str l)
    | none => none else none
  | _ => none
noncomputable def getB (f : St → Option (V × St)) : St → Option (V × St) := un f getV
noncomputable def lowV : V → Option V
  | .str l => if l = [70] ∨ l = [102] then some (.str [102]) else none
  | _ => none
noncomputable def isntV : V → V → Option V
  | .nil, .nil => some (.bool false)
  | .str _, .nil => some (.bool true)
  | _, _ => none
theorem Op2.isnt : Op2 c A (compareOp .IsNot) isntV := by
  intro α s a b v x y Q E ra rb e q
  unfold isntV at e
  split at e
  · cases ra; cases rb; cases e
    exact wpAny_isNot_self (by rfl) (q _ s.toks rfl)
  · obtain ⟨t, rfl⟩ := ra
    cases rb; cases e
    exact wpAny_isNot_other (by rfl) (by intro x; cases x) (q _ s.toks rfl)
  · cases e
theorem EvE.nil {k : Nat} {p : Pos} : EvE c A sl (eval (.Constant .none k p) en) (lit .nil) := by
  intro h₀ α σ s v σ' Q E ok I e q
  cases e
  exact wpAny_Constant_none (q α _ s.heap s.toks (List.prefix_refl _) rfl I)
theorem mem_lookup {β : Type} {k : Int} {y : β} : ∀ {l : List (Int × β)}, l.lookup k = some y → (k, y) ∈ l
  | [], h => by cases h
  | (a, b) :: r, h => by
    rw [List.lookup_cons] at h
    split at h
    · rename_i he
      cases h
      rw [beq_iff_eq.mp he]
      exact .head _
    · exact .tail _ (mem_lookup h)
theorem EvE.get {p apos pos : Pos} {y : Expr} {g : St → Option (V × St)} (w : Lw c D) (hy : EvE c A sl (eval y en) g) (hk : en.scope.kind = .function) (hx : en.kindOf "b3_exceptions" = some .globalImplicit) (hg : en.globals = mainGlobals)
    (hb : attributeBase (.Name "b3_exceptions" p) "get" en (eval (.Name "b3_exceptions" p) en) = eval (.Name "b3_exceptions" p) en := by rfl) (hl : (apos.endLine == pos.line) = true := by rfl) (hs : starEach [y] en = [(false, eval y en)] := by rfl) :
    EvE c A sl (eval (.Call (.Attribute (.Name "b3_exceptions" p) "get" apos) [y] [] pos) en) (getB g) := by
  intro h₀ α σ s v σ' Q E ok I e q
  unfold getB un at e
  split at e
  · cases e
  · rename_i a σ₁ e1
    split at e
    · cases e
    · rename_i v' e2
      cases e
      refine wpAny_Call_method_late hb (by rw [hs]; rfl) hl (htrees := rfl) ?_
      refine (Says.gl w (by rfl) hk hx hg (by rfl)) _ _ _ _ ok I.keep ?_
      obtain ⟨f, hm, ht⟩ := w.dict _ ok
      have hm' : s.heap.MapOf (intKind c.prog c.w) D.dict f := by
        obtain ⟨o, es, ep, h1, r⟩ := hm
        exact ⟨o, es, ep, I.keep _ _ h1, r⟩
      refine ⟨"dict", "dict.get", F.plainAttrs_dict, F.slot_dict_get, F.type_dict_get, hm'.typeIs, hm'.noDict, ?_⟩
      rw [hs]
      refine wpAny_dict_get1 (knd := intKind c.prog c.w) w.dictNe (hy _ _ _ _ _ _ _ _ ok I e1 fun α₁ y h₁ tk₁ p₁ r₁ I₁ => ?_)
      unfold getV at e2
      split at e2
      · rename_i a b
        obtain ⟨t, rfl⟩ := r₁
        split at e2
        · rename_i h0
          subst h0
          have e0 : (0 : Int) * c.z.n + b = b := by simp
          rw [e0]
          refine ⟨b, f, intKind_is _ _ _ _, ?_, ?_⟩
          · obtain ⟨o, es, ep, h1, r⟩ := hm
            exact ⟨o, es, ep, I₁.keep _ _ h1, r⟩
          split at e2
          · rename_i e3
            cases e2
            have := ht _ (mem_lookup e3)
            dsimp only at this
            rw [this]
            exact q α₁ _ h₁ _ p₁ rfl I₁
          · rename_i l e3
            cases e2
            obtain ⟨t', this⟩ := ht _ (mem_lookup e3)
            dsimp only at this
            rw [this]
            exact q α₁ _ h₁ _ p₁ ⟨t', rfl⟩ I₁
          · cases e2
        · cases e2
      · cases e2
theorem EvE.lower {p apos pos : Pos} {x : Str} {i : Nat} (a : Acc en sl x i) (hd : (x == ("__debug__" : Str)) = false := by decide)
    (hb : attributeBase (.Name x p) "lower" en (eval (.Name x p) en) = eval (.Name x p) en := by rfl) (hl : (apos.endLine == pos.line) = true := by rfl) :
    EvE c A sl (eval (.Call (.Attribute (.Name x p) "lower" apos) [] [] pos) en) (un (getF i) lowV) := by
  intro h₀ α σ s v σ' Q E ok I e q
  unfold un at e
  split at e
  · cases e
  · rename_i a' σ₁ e1
    split at e
    · cases e
    · rename_i v' e2
      cases e
      refine wpAny_Call_method_late hb (by rfl) hl (htrees := rfl) ?_
      refine (EvE.name a hd) _ _ _ _ _ _ _ _ ok I e1 fun α₁ y h₁ tk₁ p₁ r₁ I₁ => ?_
      unfold lowV at e2
      split at e2
      · rename_i l
        obtain ⟨t, rfl⟩ := r₁
        split at e2
        · rename_i hl
          cases e2
          have e3 : Txt.lower ⟨l.toArray⟩ = ⟨#[102]⟩ := by
            rcases hl with rfl | rfl <;> kernel_rfl
          refine SB.lower (by rw [e3]; rfl) ?_
          rw [e3]
          exact q α₁ _ h₁ _ p₁ ⟨_, rfl⟩ I₁
        · cases e2
      · cases e2
end
end Mine

-- L5
namespace Mine
section
variable {c : Cx} {A : Around} {sl : List Slot} {en : Env} {elt iter iter2 : Expr} {x y : Str} {px py pos : Pos} {scope : Scope} {i : Nat} {g₁ g₂ : Comprehension} {gs : List Comprehension}
theorem LoopJ.l1 {f : St → Option (V × St)} (hc : A.handled = none) (a : AccS en sl x i) (he : EvE c A sl (eval elt en) f) :
    LoopJ c A sl (fun it acc => .compLoop (.ListComp elt [⟨.Name x px, iter, [], 0⟩] scope pos) 0 it acc en) (fun j src σ => forF i (putF f j) 100 src σ) :=
  LoopJ.of (x := x) (px := px) (iter := iter) 100 hc a (fun it acc => compTurn_last rfl rfl) (EmJ.last he)
theorem LoopJ.l2a {f : St → Option (Src × St)} {F : Nat → Src → St → Option St} (hc : A.handled = none) (a : AccS en sl x i) (hi : EvI c A sl (eval iter2 en) f)
    (h : LoopJ c A sl (fun it acc => .compLoop (.ListComp elt (⟨.Name x px, iter, [], 0⟩ :: ⟨.Name y py, iter2, [], 0⟩ :: gs) scope pos) 1 it acc en) F) (hs : ∀ x, foldedSetIterable iter2 en x = pure x) :
    LoopJ c A sl (fun it acc => .compLoop (.ListComp elt (⟨.Name x px, iter, [], 0⟩ :: ⟨.Name y py, iter2, [], 0⟩ :: gs) scope pos) 0 it acc en) (fun j src σ => forF i (inF f F j) 100 src σ) :=
  LoopJ.of (x := x) (px := px) (iter := iter) 100 hc a (fun it acc => compTurn_in rfl (target' := .Name y py) (iter' := iter2) rfl) (EmJ.in_ (target := .Name y py) (iter := iter2) hc rfl hi h hs)
theorem LoopJ.l2b {f : St → Option (V × St)} (hc : A.handled = none) (a : AccS en sl x i) (he : EvE c A sl (eval elt en) f) :
    LoopJ c A sl (fun it acc => .compLoop (.ListComp elt [g₁, ⟨.Name x px, iter, [], 0⟩] scope pos) 1 it acc en) (fun j src σ => forF i (putF f j) 100 src σ) :=
  LoopJ.of (x := x) (px := px) (iter := iter) 100 hc a (fun it acc => compTurn_last rfl rfl) (EmJ.last he)
theorem LoopJ.l3b {f : St → Option (Src × St)} {F : Nat → Src → St → Option St} (hc : A.handled = none) (a : AccS en sl x i) (hi : EvI c A sl (eval iter2 en) f)
    (h : LoopJ c A sl (fun it acc => .compLoop (.ListComp elt (g₁ :: ⟨.Name x px, iter, [], 0⟩ :: ⟨.Name y py, iter2, [], 0⟩ :: gs) scope pos) 2 it acc en) F) (hs : ∀ x, foldedSetIterable iter2 en x = pure x) :
    LoopJ c A sl (fun it acc => .compLoop (.ListComp elt (g₁ :: ⟨.Name x px, iter, [], 0⟩ :: ⟨.Name y py, iter2, [], 0⟩ :: gs) scope pos) 1 it acc en) (fun j src σ => forF i (inF f F j) 100 src σ) :=
  LoopJ.of (x := x) (px := px) (iter := iter) 100 hc a (fun it acc => compTurn_in rfl (target' := .Name y py) (iter' := iter2) rfl) (EmJ.in_ (target := .Name y py) (iter := iter2) hc rfl hi h hs)
theorem LoopJ.l3c {f : St → Option (V × St)} (hc : A.handled = none) (a : AccS en sl x i) (he : EvE c A sl (eval elt en) f) :
    LoopJ c A sl (fun it acc => .compLoop (.ListComp elt [g₁, g₂, ⟨.Name x px, iter, [], 0⟩] scope pos) 2 it acc en) (fun j src σ => forF i (putF f j) 100 src σ) :=
  LoopJ.of (x := x) (px := px) (iter := iter) 100 hc a (fun it acc => compTurn_last rfl rfl) (EmJ.last he)
end
end Mine

-- G5
namespace Mine
section
variable {z z' : Zt} {h₀ h h₂ : Heap} {sl : List Slot} {α α₂ : List Addr} {σ σb σ₂ : Mine.St} {ks js : List Nat} {ho : List O} {vo : List (Option V)}
noncomputable abbrev boxH (h : Heap) (α : List Addr) (ks : List Nat) (sl : List Slot) : Heap := hideAll h (pickA α ks ++ sl.map Slot.base)
theorem Inv.boxIn (I : Inv z h₀ sl α σ h) (hks : ∀ k ∈ ks, k < σ.h.length) (hn : ks.Nodup) (hl : σb.h.length = ks.length)
    (hO : ∀ (i : Nat) (o : O), σb.h[i]? = some o → ∃ (k : Nat) (o₁ : O), ks[i]? = some k ∧ σ.h[k]? = some o₁ ∧ ∀ ob, ObjIs z α o₁ ob → ObjIs z' (pickA α ks) o ob)
    (hV : ∀ (i : Nat) (v : V), σb.v[i]? = some (some v) → ∃ (s : Slot) (x : Value), sl[i]? = some s ∧ s.Holds h x ∧ Rep z' (pickA α ks) v x) :
    Inv z' (boxH h α ks sl) sl (pickA α ks) σb h where
  keep := fun b o e => of_hideAll _ e
  live := I.live
  vars := hV
  objs := fun i o e => by
    obtain ⟨k, o₁, e1, e2, e3⟩ := hO i o e
    obtain ⟨a, ob, f1, f2, f3⟩ := I.objs k o₁ e2
    exact ⟨a, ob, pickA_get e1 f1, f2, e3 ob f3⟩
  len := by simp [pickA, hl]
  apart := I.apart
  nodup := by
    refine List.pairwise_map.mpr (hn.imp_of_mem fun {a b} ha hb hab q => hab ?_)
    have ha' : a < α.length := I.len ▸ hks a ha
    have hb' : b < α.length := I.len ▸ hks b hb
    refine Inv.nodup_get I.nodup (a := α.getD a 0) ?_ ?_
    · simp [List.getD, ha']
    · rw [q]; simp [List.getD, hb']
  sep := fun s hs hm => by
    obtain ⟨i, k, _, e⟩ := pickA_mem (fun k hk => I.len ▸ hks k hk) hm
    exact I.sep s hs (List.mem_of_getElem? e)
  fresh := fun a ha => hideAll_none _ (List.mem_append_left _ ha)
  freshS := fun s hs => hideAll_none _ (List.mem_append_right _ (List.mem_map_of_mem hs))
theorem Inv.boxOut (I : Inv z h₀ sl α σ h) (I₂ : Inv z' (boxH h α ks sl) sl α₂ σ₂ h₂) (hks : ∀ k ∈ ks, k < σ.h.length) (hp : pickA α ks <+: α₂) (hjn : js.Nodup) (hj : ∀ j ∈ js, ks.length ≤ j ∧ j < σ₂.h.length)
    (hback : ∀ (i k : Nat), ks[i]? = some k → ∃ (o o₂ : O), σ.h[k]? = some o ∧ σ₂.h[i]? = some o₂ ∧ ∀ ob, ObjIs z' α₂ o₂ ob → ObjIs z (α ++ pickA α₂ js) o ob)
    (hO : ∀ (i : Nat) (o : O), ho[i]? = some o → ∃ (j : Nat) (o₂ : O), js[i]? = some j ∧ σ₂.h[j]? = some o₂ ∧ ∀ ob, ObjIs z' α₂ o₂ ob → ObjIs z (α ++ pickA α₂ js) o ob) (hl : ho.length = js.length)
    (hV : ∀ (i : Nat) (v : V), vo[i]? = some (some v) → ∃ (s : Slot) (x : Value), sl[i]? = some s ∧ s.Holds h₂ x ∧ Rep z (α ++ pickA α₂ js) v x) :
    Inv z h₀ sl (α ++ pickA α₂ js) { v := vo, h := σ.h ++ ho } h₂ := by
  have hkα : ∀ k ∈ ks, k < α.length := fun k hk => I.len ▸ hks k hk
  have hjα : ∀ j ∈ js, j < α₂.length := fun j h => I₂.len ▸ (hj j h).2
  have plen : (pickA α ks).length = ks.length := by simp [pickA]
  have sub : ∀ a ∈ pickA α ks, a ∈ α := fun a ha => by obtain ⟨i, k, _, e2⟩ := pickA_mem hkα ha; exact List.mem_of_getElem? e2
  have stays : ∀ b o, b ∉ pickA α ks → b ∉ sl.map Slot.base → h.get? b = some o → h₂.get? b = some o := fun b o h1 h2 e => I₂.keep b o (hideAll_get _ e (by
    intro hm
    rcases List.mem_append.mp hm with hm | hm
    · exact h1 hm
    · exact h2 hm))
  have newpick : ∀ a ∈ pickA α₂ js, a ∈ α₂ ∧ a ∉ pickA α ks := fun a ha => by
    obtain ⟨i, j, e1, e2⟩ := pickA_mem hjα ha
    refine ⟨List.mem_of_getElem? e2, fun hm => ?_⟩
    have hjl := (hj j (List.mem_of_getElem? e1)).1
    obtain ⟨t, rfl⟩ := hp
    obtain ⟨i', hi', e3⟩ := List.getElem_of_mem hm
    have e4 : (pickA α ks ++ t)[i']? = some a := by rw [List.getElem?_append_left hi', List.getElem?_eq_getElem hi', e3]
    have := Inv.nodup_get I₂.nodup e2 e4
    omega
  have newh : ∀ a ∈ pickA α₂ js, h.get? a = none := fun a ha => by
    obtain ⟨h1, h2⟩ := newpick a ha
    cases q : h.get? a with
    | none => rfl
    | some o =>
      have := I₂.fresh a h1
      rw [hideAll_get _ q (by
        intro hm
        rcases List.mem_append.mp hm with hm | hm
        · exact h2 hm
        · obtain ⟨s, hs, e⟩ := List.mem_map.mp hm
          exact I₂.sep s hs (e ▸ h1))] at this
      cases this
  refine ⟨fun b o e => stays b o (fun hm => ?_) (fun hm => ?_) (I.keep b o e), I₂.live, hV, fun i o e => ?_, ?_, I.apart, ?_, fun s hs hm => ?_, fun a ha => ?_, I.freshS⟩
  · rw [I.fresh b (sub b hm)] at e; cases e
  · obtain ⟨s, hs, e'⟩ := List.mem_map.mp hm
    rw [← e', I.freshS s hs] at e; cases e
  · dsimp only at e
    by_cases hi : i < σ.h.length
    · rw [List.getElem?_append_left hi] at e
      obtain ⟨a, ob, f1, f2, f3⟩ := I.objs i o e
      by_cases hm : a ∈ pickA α ks
      · obtain ⟨j, k, g1, g2⟩ := pickA_mem hkα hm
        have hk : k = i := Inv.nodup_get I.nodup g2 f1
        subst hk
        obtain ⟨o', o₂, b1, b2, b3⟩ := hback j k g1
        rw [e] at b1; cases b1
        obtain ⟨a', ob', c1, c2, c3⟩ := I₂.objs j o₂ b2
        have : α₂[j]? = some a := pre_get hp (pickA_get g1 g2)
        rw [this] at c1; cases c1
        exact ⟨a, ob', pre_get (List.prefix_append _ _) f1, c2, b3 ob' c3⟩
      · refine ⟨a, ob, pre_get (List.prefix_append _ _) f1, stays _ _ hm (fun hb => ?_) f2, f3.mono (List.prefix_append _ _)⟩
        obtain ⟨s, hs, e'⟩ := List.mem_map.mp hb
        exact I.sep s hs (e' ▸ List.mem_of_getElem? f1)
    · rw [List.getElem?_append_right (by omega)] at e
      obtain ⟨j, o₂, b1, b2, b3⟩ := hO _ o e
      obtain ⟨a, ob, c1, c2, c3⟩ := I₂.objs j o₂ b2
      refine ⟨a, ob, ?_, c2, b3 ob c3⟩
      rw [List.getElem?_append_right (by rw [I.len]; omega), I.len]
      exact pickA_get b1 c1
  · simp [I.len, hl, pickA]
  · refine List.nodup_append.mpr ⟨I.nodup, ?_, fun a ha b hb q => ?_⟩
    · refine List.pairwise_map.mpr (hjn.imp_of_mem fun {a b} ha hb hab q => hab ?_)
      refine Inv.nodup_get I₂.nodup (a := α₂.getD a 0) ?_ ?_
      · simp [List.getD, hjα a ha]
      · rw [q]; simp [List.getD, hjα b hb]
    · subst q
      obtain ⟨i, hi, rfl⟩ := List.getElem_of_mem ha
      obtain ⟨_, ob, _, g2, _⟩ := I.get (i := i) (a := α[i]) (by simp [hi])
      rw [newh _ hb] at g2; cases g2
  · rcases List.mem_append.mp hm with hm | hm
    · exact I.sep s hs hm
    · exact I₂.sep s hs (newpick _ hm).1
  · rcases List.mem_append.mp ha with ha | ha
    · exact I.fresh a ha
    · cases q : h₀.get? a with
      | none => rfl
      | some o => have := newh a ha; rw [I.keep a o q] at this; cases this
end
end Mine

-- G6
namespace Mine
section
variable {c : Cx} {A : Around} {sl : List Slot} {t : Sem Flow} {f : Mine.St → Option (Fl × Mine.St)}
theorem Inv.box_ok {z : Zt} {h₀ h : Heap} {α : List Addr} {σ : Mine.St} {ks : List Nat} (I : Inv z h₀ sl α σ h) (hks : ∀ k ∈ ks, k < σ.h.length) : ∀ b o, h₀.get? b = some o → (boxH h α ks sl).get? b = some o := fun b o e =>
  hideAll_get _ (I.keep b o e) (by
    intro hm
    rcases List.mem_append.mp hm with hm | hm
    · obtain ⟨i, k, _, e2⟩ := pickA_mem (fun k hk => I.len ▸ hks k hk) hm
      rw [I.fresh b (List.mem_of_getElem? e2)] at e; cases e
    · obtain ⟨s, hs, e'⟩ := List.mem_map.mp hm
      rw [← e', I.freshS s hs] at e; cases e)
/-- a function's rest that asks a list and a number alone -/
noncomputable def restF (f : Mine.St → Option (Fl × Mine.St)) : Mine.St → Option (Fl × Mine.St) := fun σ =>
  match σ.v[0]?, σ.v[3]?, σ.h[0]? with
  | some (some (V.ref 0)), some (some (V.int 0 N)), some (O.list l0) => if l0.all flatV = true then
    match f { v := [some (.ref 0), none, none, some (.int 0 N), none, none, none, none, none, none, none, none, none, none], h := [.list l0] } with
    | some (Fl.ret (V.ref j), σ₂) => match σ₂.h[0]?, σ₂.h[j]? with
      | some o0, some (O.tup [V.bool b, V.ref i]) => match σ₂.h[i]? with
        | some (O.list l) => if o0 = .list l0 ∧ 1 ≤ j ∧ 1 ≤ i ∧ i ≠ j ∧ l.all flatV = true then
            some (.ret (.ref σ.h.length), { v := List.replicate 14 none, h := σ.h ++ [.tup [.bool b, .ref (σ.h.length + 1)], .list l] }) else none
        | _ => none
      | _, _ => none
    | _ => none else none
  | _, _, _ => none
theorem ExS.rest (h : ExS c A sl t f) : ExS c A sl t (restF f) := by
  intro h₀ α σ s v σ' Q E ok I e q
  unfold restF at e
  split at e
  · rename_i N l0 e0 e3 eh
    split at e
    · rename_i hfl
      split at e
      · rename_i j σ₂ e1
        split at e
        · rename_i o0 b i g0 gj
          split at e
          · rename_i l gi
            split at e
            · rename_i hc
              obtain ⟨rfl, hj1, hi1, hij, hlf⟩ := hc
              cases e
              have hlen : 0 < σ.h.length := (List.getElem?_eq_some_iff.mp eh).1
              have hks : ∀ k ∈ [0], k < σ.h.length := by simpa using hlen
              obtain ⟨s0, x0, a1, a2, a3⟩ := I.vars 0 _ e0
              obtain ⟨s3, x3, b1, b2, b3⟩ := I.vars 3 _ e3
              obtain ⟨ad, c1, c2⟩ := a3
              have Ib := I.boxIn (z' := c.z) (ks := [0]) (σb := { v := [some (.ref 0), none, none, some (.int 0 N), none, none, none, none, none, none, none, none, none, none], h := [.list l0] }) hks (by simp) rfl
                (fun i o eo => by
                  have : i = 0 := by
                    have := (List.getElem?_eq_some_iff.mp eo).1
                    simpa using this
                  subst this
                  simp at eo
                  exact ⟨0, _, rfl, eh, fun ob ho => by subst eo; exact flat_obj hfl ho⟩)
                (fun i v' ev => by
                  have hi : i < 14 := (List.getElem?_eq_some_iff.mp ev).1
                  by_cases h0 : i = 0
                  · subst h0
                    simp at ev; subst ev
                    exact ⟨s0, x0, a1, a2, ad, pickA_get (k := 0) rfl c1, c2⟩
                  · by_cases h3 : i = 3
                    · subst h3
                      simp at ev; subst ev
                      exact ⟨s3, x3, b1, b2, b3⟩
                    · exfalso
                      have : i = 1 ∨ i = 2 ∨ i = 4 ∨ i = 5 ∨ i = 6 ∨ i = 7 ∨ i = 8 ∨ i = 9 ∨ i = 10 ∨ i = 11 ∨ i = 12 ∨ i = 13 := by omega
                      rcases this with rfl | rfl | rfl | rfl | rfl | rfl | rfl | rfl | rfl | rfl | rfl | rfl <;> simp at ev)
              refine h _ _ _ s _ _ _ _ (c.mono _ _ ok (I.box_ok hks)) Ib e1 fun α' x h' tk p r I' => ?_
              obtain ⟨y, rfl, aj, d1, d2⟩ := r
              have hjl : j < σ₂.h.length := (List.getElem?_eq_some_iff.mp gj).1
              have hil : i < σ₂.h.length := (List.getElem?_eq_some_iff.mp gi).1
              have hnew : ∀ (n k : Nat) (a : Addr), [j, i][n]? = some k → α'[k]? = some a → (α ++ pickA α' [j, i])[σ.h.length + n]? = some a := fun n k a f1 f2 => by
                rw [List.getElem?_append_right (by rw [I.len]; omega), I.len, show σ.h.length + n - σ.h.length = n by omega]
                exact pickA_get f1 f2
              refine q (α ++ pickA α' [j, i]) _ h' tk (List.prefix_append _ _) ⟨y, rfl, aj, by simpa using hnew 0 j aj rfl d1, d2⟩ (I.boxOut (js := [j, i]) (ho := [.tup [.bool b, .ref (σ.h.length + 1)], .list l]) (vo := List.replicate 14 none) I' hks p (by simp; omega) ?_ ?_ ?_ rfl ?_)
              · intro k hk
                simp at hk
                rcases hk with rfl | rfl
                · exact ⟨hj1, hjl⟩
                · exact ⟨hi1, hil⟩
              · intro n k hk
                have : n = 0 := by
                  have := (List.getElem?_eq_some_iff.mp hk).1
                  simpa using this
                subst this
                simp at hk
                subst hk
                exact ⟨_, _, eh, g0, fun ob ho => flat_obj hfl ho⟩
              · intro n o hn
                have hn2 : n < 2 := (List.getElem?_eq_some_iff.mp hn).1
                by_cases h0 : n = 0
                · subst h0
                  simp at hn; subst hn
                  refine ⟨j, _, rfl, gj, fun ob ho => ?_⟩
                  obtain ⟨vs, m, eo, r⟩ := ho
                  refine ⟨vs, m, eo, ?_⟩
                  cases r with
                  | cons r1 r =>
                    cases r with
                    | cons r2 r =>
                      cases r
                      obtain ⟨ai, f1, f2⟩ := r2
                      exact .cons r1 (.cons ⟨ai, hnew 1 i ai rfl f1, f2⟩ .nil)
                · have : n = 1 := by omega
                  subst this
                  simp at hn; subst hn
                  exact ⟨i, _, rfl, gi, fun ob ho => flat_obj hlf ho⟩
              · intro n v hv
                rw [List.getElem?_replicate] at hv
                split at hv <;> cases hv
            · cases e
          · cases e
        · cases e
      · cases e
    · cases e
  · cases e
noncomputable def isInt0 : V → Bool
  | .int a _ => a == 0
  | _ => false
theorem int0_all {z z' : Zt} {α β : List Addr} : ∀ {l : List V} {w : List Value}, l.all isInt0 = true → All2 (Rep z α) l w → All2 (Rep z' β) l w
  | _, _, _, .nil => .nil
  | v :: _, _, h, .cons r rs => by
    rw [List.all_cons, Bool.and_eq_true] at h
    refine .cons ?_ (int0_all h.2 rs)
    cases v with
    | int a b =>
      have : a = 0 := by simpa [isInt0] using h.1
      subst this
      obtain ⟨t, e⟩ := r
      exact ⟨t, by rw [e]; simp⟩
    | _ => simp [isInt0] at h
noncomputable def vT (r : Int) : List (Option V) := [some (.opq 0), some (.opq 1), some (.opq 2), none, some (.int 720 r), none, none, none, none, none, none, none, none, none, none, none, none, none, none, none, none, none, none]
/-- the turn amid: the cell's remainder alone is asked -/
noncomputable def turnF (f : Mine.St → Option (Fl × Mine.St)) : Mine.St → Option (Fl × Mine.St) := fun σ =>
  match σ.v[4]?, σ.v[0]?, σ.v[1]?, σ.v[2]? with
  | some (some (V.int 0 k)), some (some v0), some (some v1), some (some v2) => match f { v := vT (k % 720), h := [] } with
    | some (Fl.next, σ₂) => match σ₂.v[11]?, σ₂.v[0]?, σ₂.v[1]?, σ₂.v[2]? with
      | some (some (V.ref j)), some (some (V.opq 0)), some (some (V.opq 1)), some (some (V.opq 2)) => match σ₂.h[j]? with
        | some (O.list l) => if l.all isInt0 = true then
          some (.next, { v := [some v0, some v1, some v2, none, none, none, none, none, none, none, none, some (.ref σ.h.length), none, none, none, none, none, none, none, none, none, none, none], h := σ.h ++ [.list l] }) else none
        | _ => none
      | _, _, _, _ => none
    | _ => none
  | _, _, _, _ => none
theorem ExS.turn (h : ∀ z' : Zt, ExS { c with z := z' } A sl t f) : ExS c A sl t (turnF f) := by
  intro h₀ α σ s v σ' Q E ok I e q
  unfold turnF at e
  split at e
  · rename_i k v0 v1 v2 e4 e0 e1 e2
    split at e
    · rename_i σ₂ ef
      split at e
      · rename_i j g11 g0 g1 g2
        split at e
        · rename_i l gj
          split at e
          · rename_i hl
            cases e
            obtain ⟨s4, x4, a41, a42, t4, a43⟩ := I.vars 4 _ e4
            obtain ⟨s0, x0, a01, a02, a03⟩ := I.vars 0 _ e0
            obtain ⟨s1, x1, a11, a12, a13⟩ := I.vars 1 _ e1
            obtain ⟨s2, x2, a21, a22, a23⟩ := I.vars 2 _ e2
            let z' : Zt := ⟨k / 720, fun j => if j = 0 then x0 else if j = 1 then x1 else x2⟩
            have Ib := I.boxIn (z' := z') (ks := []) (σb := { v := vT (k % 720), h := [] }) (by simp) (by simp) rfl (fun i o eo => by simp at eo) (fun i v' ev => by
              have hi : i < 23 := (List.getElem?_eq_some_iff.mp ev).1
              by_cases h0 : i = 0
              · subst h0; simp [vT] at ev; subst ev; exact ⟨s0, x0, a01, a02, rfl⟩
              · by_cases h1 : i = 1
                · subst h1; simp [vT] at ev; subst ev; exact ⟨s1, x1, a11, a12, rfl⟩
                · by_cases h2 : i = 2
                  · subst h2; simp [vT] at ev; subst ev; exact ⟨s2, x2, a21, a22, rfl⟩
                  · by_cases h4 : i = 4
                    · subst h4; simp [vT] at ev; subst ev
                      refine ⟨s4, x4, a41, a42, t4, ?_⟩
                      rw [a43]
                      show Value.int (0 * c.z.n + k) t4 = Value.int (720 * (k / 720) + k % 720) t4
                      congr 1
                      omega
                    · exfalso
                      have : i = 3 ∨ i = 5 ∨ i = 6 ∨ i = 7 ∨ i = 8 ∨ i = 9 ∨ i = 10 ∨ i = 11 ∨ i = 12 ∨ i = 13 ∨ i = 14 ∨ i = 15 ∨ i = 16 ∨ i = 17 ∨ i = 18 ∨ i = 19 ∨ i = 20 ∨ i = 21 ∨ i = 22 := by omega
                      rcases this with rfl | rfl | rfl | rfl | rfl | rfl | rfl | rfl | rfl | rfl | rfl | rfl | rfl | rfl | rfl | rfl | rfl | rfl | rfl <;> simp [vT] at ev)
            refine h z' _ _ _ s _ _ _ _ (c.mono _ _ ok (I.box_ok (by simp))) Ib ef fun α' x h' tk p r I' => ?_
            cases r
            have hjl : j < σ₂.h.length := (List.getElem?_eq_some_iff.mp gj).1
            have hnew : ∀ (a : Addr), α'[j]? = some a → (α ++ pickA α' [j])[σ.h.length]? = some a := fun a f2 => by
              rw [List.getElem?_append_right (by rw [I.len]; omega), I.len, Nat.sub_self]
              exact pickA_get (k := j) rfl f2
            obtain ⟨r0, y0, b01, b02, b03⟩ := I'.vars 0 _ g0
            obtain ⟨r1, y1, b11, b12, b13⟩ := I'.vars 1 _ g1
            obtain ⟨r2, y2, b21, b22, b23⟩ := I'.vars 2 _ g2
            obtain ⟨r11, y11, b111, b112, aj, b113, b114⟩ := I'.vars 11 _ g11
            refine q (α ++ pickA α' [j]) _ h' tk (List.prefix_append _ _) rfl (I.boxOut (js := [j]) (ho := [.list l]) I' (by simp) p (by simp) ?_ ?_ ?_ rfl ?_)
            · intro k hk
              simp at hk
              subst hk
              exact ⟨by simp, hjl⟩
            · intro n k hk; simp at hk
            · intro n o hn
              have hn2 : n < 1 := (List.getElem?_eq_some_iff.mp hn).1
              have : n = 0 := by omega
              subst this
              simp at hn; subst hn
              refine ⟨j, _, rfl, gj, fun ob ho => ?_⟩
              obtain ⟨vs, m, eo, r⟩ := ho
              exact ⟨vs, m, eo, int0_all hl r⟩
            · intro i w ev
              have hi : i < 23 := (List.getElem?_eq_some_iff.mp ev).1
              by_cases h0 : i = 0
              · subst h0; simp at ev; subst ev
                have : y0 = x0 := b03
                subst this
                exact ⟨r0, y0, b01, b02, a03.mono (List.prefix_append _ _)⟩
              · by_cases h1 : i = 1
                · subst h1; simp at ev; subst ev
                  have : y1 = x1 := b13
                  subst this
                  exact ⟨r1, y1, b11, b12, a13.mono (List.prefix_append _ _)⟩
                · by_cases h2 : i = 2
                  · subst h2; simp at ev; subst ev
                    have : y2 = x2 := b23
                    subst this
                    exact ⟨r2, y2, b21, b22, a23.mono (List.prefix_append _ _)⟩
                  · by_cases h11 : i = 11
                    · subst h11; simp at ev; subst ev
                      exact ⟨r11, y11, b111, b112, aj, hnew aj b113, b114⟩
                    · exfalso
                      have : i = 3 ∨ i = 4 ∨ i = 5 ∨ i = 6 ∨ i = 7 ∨ i = 8 ∨ i = 9 ∨ i = 10 ∨ i = 12 ∨ i = 13 ∨ i = 14 ∨ i = 15 ∨ i = 16 ∨ i = 17 ∨ i = 18 ∨ i = 19 ∨ i = 20 ∨ i = 21 ∨ i = 22 := by omega
                      rcases this with rfl | rfl | rfl | rfl | rfl | rfl | rfl | rfl | rfl | rfl | rfl | rfl | rfl | rfl | rfl | rfl | rfl | rfl | rfl <;> simp at ev
          · cases e
        · cases e
      · cases e
    · cases e
  · cases e
end
end Mine

-- L6
namespace Mine
set_option maxHeartbeats 0
@[irreducible] noncomputable def fixS : { f : St → Option (Fl × St) // ∀ (D : Ad) (c : Cx) (_ : Lw c D) (A : Around) (_ : Room A 0) (L : Addr), ExS c A ((["data"] : List Str).map (slotOf (F_fix D).scope.names L)) (execs B_fix (callEnvC (F_fix D) L D.fix)) f } :=
  ⟨_, fun D c w A r L => by
    delta B_fix Bi_fix
    dsimp only
    with_reducible refine' ExS.cons ?_ ?_
    with_reducible refine' ExS.ret ?_
    with_reducible refine' EvE.sub ‹Lw _ _› ?_ ?_ ?_ ?_ ?_ ?_ ?_ ?_ ?_
    rotate_left 1
    exact Acc.loc (i := 0) (by kernel_rfl) (by kernel_rfl) (by kernel_rfl)
    first | with_reducible rfl | kernel_rfl
    first | with_reducible rfl | kernel_rfl
    first | with_reducible rfl | kernel_rfl
    first | with_reducible rfl | kernel_rfl
    first | with_reducible rfl | kernel_rfl
    first | with_reducible rfl | kernel_rfl
    first | with_reducible rfl | kernel_rfl
    first | with_reducible rfl | kernel_rfl
    exact ExS.nil⟩
theorem EvE.fix {c : Cx} {A : Around} {sl : List Slot} {en : Env} {D : Ad} {k : Nat} {p pos : Pos} {e : Expr} {es : List Expr} {g : St → Option (List V × St)} (w : Lw c D) (r : Room A (k + 1)) (hk : en.scope.kind = .function) (hx : en.kindOf "_fix_eols" = some .globalImplicit) (hg : en.globals = mainGlobals)
    (hl : EvL c A sl (spliced (backTo pos (starEach (e :: es) en))) g) (hs : starEach (e :: es) en = (false, eval e en) :: starEach es en) : EvE c A sl (eval (.Call (.Name "_fix_eols" p) (e :: es) [] pos) en) (callsF (["data"] : List Str).length (["data"] : List Str).length (fixS.1) g) := by
  with_reducible refine EvE.callN (Says.gl w ?_ hk hx hg ?_) w.fix (form_fix D) r.go (fun L => fixS.2 D c w _ ((r.mono (by omega)).deep _) L) hl hs
  · kernel_rfl
  · kernel_rfl
@[irreducible] noncomputable def b3S : { f : St → Option (Fl × St) // ∀ (D : Ad) (c : Cx) (_ : Lw c D) (A : Around) (_ : Room A 0) (L : Addr), ExS c A ((["code", "r"] : List Str).map (slotOf (F_b3 D).scope.names L)) (execs B_b3 (callEnvC (F_b3 D) L D.b3)) f } :=
  ⟨_, fun D c w A r L => by
    delta B_b3 Bi_b3
    dsimp only
    with_reducible refine' ExS.cons ?_ ?_
    with_reducible refine' ExS.assign ?_ ?_ ?_
    exact AccS.loc (i := 1) (by kernel_rfl) (by kernel_rfl) (by kernel_rfl)
    with_reducible refine' EvE.get ‹Lw _ _› ?_ ?_ ?_ ?_ ?_ ?_ ?_
    rotate_left 1
    with_reducible refine' EvE.call1 (id := "ord") (Says.bl ‹Lw _ _› ?_ ?_ ?_ ?_ ?_ ?_) ?_ OpH.ord ?_
    rotate_left 1
    first | with_reducible rfl | kernel_rfl
    first | with_reducible rfl | kernel_rfl
    first | with_reducible rfl | kernel_rfl
    first | with_reducible rfl | kernel_rfl
    first | with_reducible rfl | kernel_rfl
    first | with_reducible rfl | kernel_rfl
    with_reducible refine' EvE.name ?_ ?_
    exact Acc.loc (i := 0) (by kernel_rfl) (by kernel_rfl) (by kernel_rfl)
    first | with_reducible rfl | kernel_rfl
    first | with_reducible rfl | kernel_rfl
    first | with_reducible rfl | kernel_rfl
    first | with_reducible rfl | kernel_rfl
    first | with_reducible rfl | kernel_rfl
    first | with_reducible rfl | kernel_rfl
    first | with_reducible rfl | kernel_rfl
    first | with_reducible rfl | kernel_rfl
    first | with_reducible rfl | kernel_rfl
    with_reducible refine' ExS.cons ?_ ?_
    with_reducible refine' ExS.ite ?_ ?_ ?_
    with_reducible refine' EvB.cmp ?_ ?_ Op2.isnt ?_
    with_reducible refine' EvE.name ?_ ?_
    exact Acc.loc (i := 1) (by kernel_rfl) (by kernel_rfl) (by kernel_rfl)
    first | with_reducible rfl | kernel_rfl
    with_reducible exact EvE.nil
    first | with_reducible rfl | kernel_rfl
    with_reducible refine' ExS.cons ?_ ?_
    with_reducible refine' ExS.ret ?_
    with_reducible refine' EvE.name ?_ ?_
    exact Acc.loc (i := 1) (by kernel_rfl) (by kernel_rfl) (by kernel_rfl)
    first | with_reducible rfl | kernel_rfl
    exact ExS.nil
    exact ExS.nil
    with_reducible refine' ExS.cons ?_ ?_
    with_reducible refine' ExS.ret ?_
    with_reducible refine' EvE.lower ?_ ?_ ?_ ?_
    exact Acc.loc (i := 0) (by kernel_rfl) (by kernel_rfl) (by kernel_rfl)
    first | with_reducible rfl | kernel_rfl
    first | with_reducible rfl | kernel_rfl
    first | with_reducible rfl | kernel_rfl
    exact ExS.nil⟩
theorem EvE.b3 {c : Cx} {A : Around} {sl : List Slot} {en : Env} {D : Ad} {k : Nat} {p pos : Pos} {e : Expr} {es : List Expr} {g : St → Option (List V × St)} (w : Lw c D) (r : Room A (k + 1)) (hk : en.scope.kind = .function) (hx : en.kindOf "map_table_b3" = some .globalImplicit) (hg : en.globals = mainGlobals)
    (hl : EvL c A sl (spliced (backTo pos (starEach (e :: es) en))) g) (hs : starEach (e :: es) en = (false, eval e en) :: starEach es en) : EvE c A sl (eval (.Call (.Name "map_table_b3" p) (e :: es) [] pos) en) (callsF (["code", "r"] : List Str).length (["code"] : List Str).length (b3S.1) g) := by
  with_reducible refine EvE.callN (Says.gl w ?_ hk hx hg ?_) w.b3 (form_b3 D) r.go (fun L => b3S.2 D c w _ ((r.mono (by omega)).deep _) L) hl hs
  · kernel_rfl
  · kernel_rfl
@[irreducible] noncomputable def fibS : { f : St → Option (Fl × St) // ∀ (D : Ad) (c : Cx) (_ : Lw c D) (A : Around) (_ : Room A 0) (L : Addr), ExS c A ((["numbers", "_"] : List Str).map (slotOf (F_fib D).scope.names L)) (execs B_fib (callEnvC (F_fib D) L D.fib)) f } :=
  ⟨_, fun D c w A r L => by
    delta B_fib Bi_fib
    dsimp only
    with_reducible refine' ExS.cons ?_ ?_
    with_reducible refine' ExS.assign ?_ ?_ ?_
    exact AccS.loc (i := 0) (by kernel_rfl) (by kernel_rfl) (by kernel_rfl)
    with_reducible refine' EvE.list ?_
    with_reducible refine' EvL.cons ?_ ?_ ?_
    with_reducible exact EvE.int
    with_reducible refine' EvL.cons ?_ ?_ ?_
    with_reducible exact EvE.int
    exact EvL.nil
    first | with_reducible rfl | kernel_rfl
    first | with_reducible rfl | kernel_rfl
    first | with_reducible rfl | kernel_rfl
    with_reducible refine' ExS.cons ?_ ?_
    with_reducible refine' ExS.for_ 100 ‹Room _ _›.calm ?_ ?_ ?_ ?_
    rotate_left 3
    exact AccS.loc (i := 1) (by kernel_rfl) (by kernel_rfl) (by kernel_rfl)
    with_reducible refine' EvI.range1 (Says.bl ‹Lw _ _› ?_ ?_ ?_ ?_ ?_ ?_) ?_ ?_
    rotate_left 1
    first | with_reducible rfl | kernel_rfl
    first | with_reducible rfl | kernel_rfl
    first | with_reducible rfl | kernel_rfl
    first | with_reducible rfl | kernel_rfl
    first | with_reducible rfl | kernel_rfl
    first | with_reducible rfl | kernel_rfl
    with_reducible exact EvE.int
    first | with_reducible rfl | kernel_rfl
    with_reducible refine' ExS.cons ?_ ?_
    with_reducible refine' ExS.expr ?_ ?_ ?_
    with_reducible refine' EvE.append ?_ ?_ ?_ ?_ ?_ ?_
    exact Acc.loc (i := 0) (by kernel_rfl) (by kernel_rfl) (by kernel_rfl)
    with_reducible refine' EvE.binop ?_ ?_ Op2.add
    with_reducible refine' EvE.item ?_ ?_ ?_ ?_
    with_reducible refine' EvE.name ?_ ?_
    exact Acc.loc (i := 0) (by kernel_rfl) (by kernel_rfl) (by kernel_rfl)
    first | with_reducible rfl | kernel_rfl
    with_reducible refine' EvE.unop ?_ Op1.neg
    with_reducible exact EvE.int
    (intros; kernel_rfl)
    (intros; kernel_rfl)
    with_reducible refine' EvE.item ?_ ?_ ?_ ?_
    with_reducible refine' EvE.name ?_ ?_
    exact Acc.loc (i := 0) (by kernel_rfl) (by kernel_rfl) (by kernel_rfl)
    first | with_reducible rfl | kernel_rfl
    with_reducible refine' EvE.unop ?_ Op1.neg
    with_reducible exact EvE.int
    (intros; kernel_rfl)
    (intros; kernel_rfl)
    first | with_reducible rfl | kernel_rfl
    first | with_reducible rfl | kernel_rfl
    first | with_reducible rfl | kernel_rfl
    first | with_reducible rfl | kernel_rfl
    first | with_reducible rfl | kernel_rfl
    first | with_reducible rfl | kernel_rfl
    exact ExS.nil
    (intros; kernel_rfl)
    with_reducible refine' ExS.cons ?_ ?_
    with_reducible refine' ExS.ret ?_
    with_reducible refine' EvE.name ?_ ?_
    exact Acc.loc (i := 0) (by kernel_rfl) (by kernel_rfl) (by kernel_rfl)
    first | with_reducible rfl | kernel_rfl
    exact ExS.nil⟩
theorem EvE.fib {c : Cx} {A : Around} {sl : List Slot} {en : Env} {D : Ad} {k : Nat} {p pos : Pos} (w : Lw c D) (r : Room A (k + 1)) (hk : en.scope.kind = .function) (hx : en.kindOf "_law_fibonacci" = some .globalImplicit) (hg : en.globals = mainGlobals) : EvE c A sl (eval (.Call (.Name "_law_fibonacci" p) [] [] pos) en) (callF (["numbers", "_"] : List Str).length (fibS.1) []) := by
  with_reducible refine EvE.call0 (Says.gl w ?_ hk hx hg ?_) w.fib (form_fib D) r.go (fun L => fibS.2 D c w _ ((r.mono (by omega)).deep _) L)
  · kernel_rfl
  · kernel_rfl
@[irreducible] noncomputable def spelledS : { f : St → Option (Fl × St) // ∀ (D : Ad) (c : Cx) (_ : Lw c D) (A : Around) (_ : Room A 0) (L : Addr), ExS c A ((["sizes", "kind", "points", "signs", "k"] : List Str).map (slotOf (F_spelled D).scope.names L)) (execs B_spelled (callEnvC (F_spelled D) L D.spelled)) f } :=
  ⟨_, fun D c w A r L => by
    delta B_spelled Bi_spelled
    dsimp only
    with_reducible refine' ExS.cons ?_ ?_
    with_reducible refine' ExS.assign ?_ ?_ ?_
    exact AccS.loc (i := 2) (by kernel_rfl) (by kernel_rfl) (by kernel_rfl)
    with_reducible refine' EvE.list ?_
    with_reducible refine' EvL.cons ?_ ?_ ?_
    with_reducible exact EvE.int
    with_reducible refine' EvL.cons ?_ ?_ ?_
    with_reducible exact EvE.int
    with_reducible refine' EvL.cons ?_ ?_ ?_
    with_reducible exact EvE.int
    with_reducible refine' EvL.cons ?_ ?_ ?_
    with_reducible exact EvE.int
    with_reducible refine' EvL.cons ?_ ?_ ?_
    with_reducible exact EvE.int
    with_reducible refine' EvL.cons ?_ ?_ ?_
    with_reducible exact EvE.int
    with_reducible refine' EvL.cons ?_ ?_ ?_
    with_reducible exact EvE.int
    with_reducible refine' EvL.cons ?_ ?_ ?_
    with_reducible exact EvE.int
    with_reducible refine' EvL.cons ?_ ?_ ?_
    with_reducible exact EvE.int
    with_reducible refine' EvL.cons ?_ ?_ ?_
    with_reducible exact EvE.int
    with_reducible refine' EvL.cons ?_ ?_ ?_
    with_reducible exact EvE.int
    with_reducible refine' EvL.cons ?_ ?_ ?_
    with_reducible exact EvE.int
    with_reducible refine' EvL.cons ?_ ?_ ?_
    with_reducible exact EvE.int
    with_reducible refine' EvL.cons ?_ ?_ ?_
    with_reducible exact EvE.int
    with_reducible refine' EvL.cons ?_ ?_ ?_
    with_reducible exact EvE.int
    exact EvL.nil
    first | with_reducible rfl | kernel_rfl
    first | with_reducible rfl | kernel_rfl
    first | with_reducible rfl | kernel_rfl
    first | with_reducible rfl | kernel_rfl
    first | with_reducible rfl | kernel_rfl
    first | with_reducible rfl | kernel_rfl
    first | with_reducible rfl | kernel_rfl
    first | with_reducible rfl | kernel_rfl
    first | with_reducible rfl | kernel_rfl
    first | with_reducible rfl | kernel_rfl
    first | with_reducible rfl | kernel_rfl
    first | with_reducible rfl | kernel_rfl
    first | with_reducible rfl | kernel_rfl
    first | with_reducible rfl | kernel_rfl
    first | with_reducible rfl | kernel_rfl
    first | with_reducible rfl | kernel_rfl
    with_reducible refine' ExS.cons ?_ ?_
    with_reducible refine' ExS.assign ?_ ?_ ?_
    exact AccS.loc (i := 3) (by kernel_rfl) (by kernel_rfl) (by kernel_rfl)
    with_reducible refine' EvE.list ?_
    exact EvL.nil
    first | with_reducible rfl | kernel_rfl
    with_reducible refine' ExS.cons ?_ ?_
    with_reducible refine' ExS.for_ 100 ‹Room _ _›.calm ?_ ?_ ?_ ?_
    rotate_left 3
    exact AccS.loc (i := 4) (by kernel_rfl) (by kernel_rfl) (by kernel_rfl)
    with_reducible refine' EvI.range1 (Says.bl ‹Lw _ _› ?_ ?_ ?_ ?_ ?_ ?_) ?_ ?_
    rotate_left 1
    first | with_reducible rfl | kernel_rfl
    first | with_reducible rfl | kernel_rfl
    first | with_reducible rfl | kernel_rfl
    first | with_reducible rfl | kernel_rfl
    first | with_reducible rfl | kernel_rfl
    first | with_reducible rfl | kernel_rfl
    with_reducible refine' EvE.call1 (id := "len") (Says.bl ‹Lw _ _› ?_ ?_ ?_ ?_ ?_ ?_) ?_ OpH.len ?_
    rotate_left 1
    first | with_reducible rfl | kernel_rfl
    first | with_reducible rfl | kernel_rfl
    first | with_reducible rfl | kernel_rfl
    first | with_reducible rfl | kernel_rfl
    first | with_reducible rfl | kernel_rfl
    first | with_reducible rfl | kernel_rfl
    with_reducible refine' EvE.name ?_ ?_
    exact Acc.loc (i := 0) (by kernel_rfl) (by kernel_rfl) (by kernel_rfl)
    first | with_reducible rfl | kernel_rfl
    first | with_reducible rfl | kernel_rfl
    first | with_reducible rfl | kernel_rfl
    with_reducible refine' ExS.cons ?_ ?_
    with_reducible refine' ExS.expr ?_ ?_ ?_
    with_reducible refine' EvE.append ?_ ?_ ?_ ?_ ?_ ?_
    exact Acc.loc (i := 3) (by kernel_rfl) (by kernel_rfl) (by kernel_rfl)
    with_reducible refine' EvE.call1 (id := "chr") (Says.bl ‹Lw _ _› ?_ ?_ ?_ ?_ ?_ ?_) ?_ OpH.chr ?_
    rotate_left 1
    first | with_reducible rfl | kernel_rfl
    first | with_reducible rfl | kernel_rfl
    first | with_reducible rfl | kernel_rfl
    first | with_reducible rfl | kernel_rfl
    first | with_reducible rfl | kernel_rfl
    first | with_reducible rfl | kernel_rfl
    with_reducible refine' EvE.ite ?_ ?_ ?_
    with_reducible refine' EvB.cmp ?_ ?_ Op2.eq ?_
    with_reducible refine' EvE.item ?_ ?_ ?_ ?_
    with_reducible refine' EvE.name ?_ ?_
    exact Acc.loc (i := 0) (by kernel_rfl) (by kernel_rfl) (by kernel_rfl)
    first | with_reducible rfl | kernel_rfl
    with_reducible refine' EvE.name ?_ ?_
    exact Acc.loc (i := 4) (by kernel_rfl) (by kernel_rfl) (by kernel_rfl)
    first | with_reducible rfl | kernel_rfl
    (intros; kernel_rfl)
    (intros; kernel_rfl)
    with_reducible exact EvE.int
    first | with_reducible rfl | kernel_rfl
    with_reducible exact EvE.int
    with_reducible refine' EvE.item ?_ ?_ ?_ ?_
    with_reducible refine' EvE.name ?_ ?_
    exact Acc.loc (i := 2) (by kernel_rfl) (by kernel_rfl) (by kernel_rfl)
    first | with_reducible rfl | kernel_rfl
    with_reducible refine' EvE.binop ?_ ?_ Op2.mod
    with_reducible refine' EvE.binop ?_ ?_ Op2.add
    with_reducible refine' EvE.name ?_ ?_
    exact Acc.loc (i := 1) (by kernel_rfl) (by kernel_rfl) (by kernel_rfl)
    first | with_reducible rfl | kernel_rfl
    with_reducible refine' EvE.name ?_ ?_
    exact Acc.loc (i := 4) (by kernel_rfl) (by kernel_rfl) (by kernel_rfl)
    first | with_reducible rfl | kernel_rfl
    with_reducible exact EvE.int
    (intros; kernel_rfl)
    (intros; kernel_rfl)
    first | with_reducible rfl | kernel_rfl
    first | with_reducible rfl | kernel_rfl
    first | with_reducible rfl | kernel_rfl
    first | with_reducible rfl | kernel_rfl
    first | with_reducible rfl | kernel_rfl
    first | with_reducible rfl | kernel_rfl
    first | with_reducible rfl | kernel_rfl
    exact ExS.nil
    (intros; kernel_rfl)
    with_reducible refine' ExS.cons ?_ ?_
    with_reducible refine' ExS.ret ?_
    with_reducible refine' EvE.name ?_ ?_
    exact Acc.loc (i := 3) (by kernel_rfl) (by kernel_rfl) (by kernel_rfl)
    first | with_reducible rfl | kernel_rfl
    exact ExS.nil⟩
theorem EvE.spelled {c : Cx} {A : Around} {sl : List Slot} {en : Env} {D : Ad} {k : Nat} {p pos : Pos} {e : Expr} {es : List Expr} {g : St → Option (List V × St)} (w : Lw c D) (r : Room A (k + 1)) (hk : en.scope.kind = .function) (hx : en.kindOf "_law_spelled" = some .globalImplicit) (hg : en.globals = mainGlobals)
    (hl : EvL c A sl (spliced (backTo pos (starEach (e :: es) en))) g) (hs : starEach (e :: es) en = (false, eval e en) :: starEach es en) : EvE c A sl (eval (.Call (.Name "_law_spelled" p) (e :: es) [] pos) en) (callsF (["sizes", "kind", "points", "signs", "k"] : List Str).length (["sizes", "kind"] : List Str).length (spelledS.1) g) := by
  with_reducible refine EvE.callN (Says.gl w ?_ hk hx hg ?_) w.spelled (form_spelled D) r.go (fun L => spelledS.2 D c w _ ((r.mono (by omega)).deep _) L) hl hs
  · kernel_rfl
  · kernel_rfl
@[irreducible] noncomputable def foldsS : { f : St → Option (Fl × St) // ∀ (D : Ad) (c : Cx) (_ : Lw c D) (A : Around) (_ : Room A 1) (L : Addr), ExS c A ((["signs", "folds", "behind", "places", "fold"] : List Str).map (slotOf (F_folds D).scope.names L)) (execs B_folds (callEnvC (F_folds D) L D.folds)) f } :=
  ⟨_, fun D c w A r L => by
    delta B_folds Bi_folds
    dsimp only
    with_reducible refine' ExS.cons ?_ ?_
    with_reducible refine' exS_comp (xs := (["sign"] : List Str)) 5 ?_ ?_ ?_ ?_ ?_ ?_ ?_
    rotate_left 1
    first | with_reducible rfl | kernel_rfl
    exact ⟨by rfl, by decide +kernel, by rfl, by decide +kernel, by decide +kernel, ⟨_, List.Mem.head _⟩⟩
    exact AccS.loc (i := 1) (by kernel_rfl) (by kernel_rfl) (by kernel_rfl)
    with_reducible refine' EvI.value ?_
    with_reducible refine' EvE.name ?_ ?_
    exact Acc.loc (i := 0) (by kernel_rfl) (by kernel_rfl) (by kernel_rfl)
    first | with_reducible rfl | kernel_rfl
    intro C
    with_reducible refine' LoopJ.l1 ‹Room _ _›.calm ?_ ?_
    rotate_left 2
    exact AccS.loc (i := 5) (by kernel_rfl) (by kernel_rfl) (by kernel_rfl)
    with_reducible refine' Mine.EvE.b3 (k := 0) ‹Lw _ _› (Room.mono ‹Room _ _› (by decide)) ?_ ?_ ?_ ?_ ?_
    rotate_left 1
    first | with_reducible rfl | kernel_rfl
    first | with_reducible rfl | kernel_rfl
    first | with_reducible rfl | kernel_rfl
    with_reducible refine' EvL.cons ?_ ?_ ?_
    with_reducible refine' EvE.name ?_ ?_
    exact Acc.loc (i := 5) (by kernel_rfl) (by kernel_rfl) (by kernel_rfl)
    first | with_reducible rfl | kernel_rfl
    exact EvL.nil
    first | with_reducible rfl | kernel_rfl
    first | with_reducible rfl | kernel_rfl
    first | with_reducible rfl | kernel_rfl
    (intros; kernel_rfl)
    with_reducible refine' ExS.cons ?_ ?_
    with_reducible refine' ExS.assign ?_ ?_ ?_
    exact AccS.loc (i := 2) (by kernel_rfl) (by kernel_rfl) (by kernel_rfl)
    with_reducible exact EvE.int
    first | with_reducible rfl | kernel_rfl
    with_reducible refine' ExS.cons ?_ ?_
    with_reducible refine' ExS.assign ?_ ?_ ?_
    exact AccS.loc (i := 3) (by kernel_rfl) (by kernel_rfl) (by kernel_rfl)
    with_reducible refine' EvE.list ?_
    exact EvL.nil
    first | with_reducible rfl | kernel_rfl
    with_reducible refine' ExS.cons ?_ ?_
    with_reducible refine' ExS.for_ 100 ‹Room _ _›.calm ?_ ?_ ?_ ?_
    rotate_left 3
    exact AccS.loc (i := 4) (by kernel_rfl) (by kernel_rfl) (by kernel_rfl)
    with_reducible refine' EvI.value ?_
    with_reducible refine' EvE.slice ?_ ?_ ?_ ?_ ?_ ?_
    with_reducible refine' EvE.name ?_ ?_
    exact Acc.loc (i := 1) (by kernel_rfl) (by kernel_rfl) (by kernel_rfl)
    first | with_reducible rfl | kernel_rfl
    exact EvP.none
    exact EvP.none
    with_reducible refine' EvP.some ?_
    with_reducible refine' EvE.unop ?_ Op1.neg
    with_reducible exact EvE.int
    first | exact ⟨true, fun _ _ => by rfl⟩ | exact ⟨false, fun _ _ => by rfl⟩
    (intros; kernel_rfl)
    with_reducible refine' ExS.cons ?_ ?_
    with_reducible refine' ExS.ite ?_ ?_ ?_
    with_reducible refine' EvB.cmp ?_ ?_ Op2.eq ?_
    with_reducible refine' EvE.name ?_ ?_
    exact Acc.loc (i := 4) (by kernel_rfl) (by kernel_rfl) (by kernel_rfl)
    first | with_reducible rfl | kernel_rfl
    with_reducible refine' EvE.str (l := [102, 102]) ?_
    first | with_reducible rfl | kernel_rfl
    first | with_reducible rfl | kernel_rfl
    with_reducible refine' ExS.cons ?_ ?_
    with_reducible refine' ExS.expr ?_ ?_ ?_
    with_reducible refine' EvE.append ?_ ?_ ?_ ?_ ?_ ?_
    exact Acc.loc (i := 3) (by kernel_rfl) (by kernel_rfl) (by kernel_rfl)
    with_reducible refine' EvE.binop ?_ ?_ Op2.add
    with_reducible refine' EvE.name ?_ ?_
    exact Acc.loc (i := 2) (by kernel_rfl) (by kernel_rfl) (by kernel_rfl)
    first | with_reducible rfl | kernel_rfl
    with_reducible exact EvE.int
    first | with_reducible rfl | kernel_rfl
    first | with_reducible rfl | kernel_rfl
    first | with_reducible rfl | kernel_rfl
    first | with_reducible rfl | kernel_rfl
    first | with_reducible rfl | kernel_rfl
    first | with_reducible rfl | kernel_rfl
    exact ExS.nil
    exact ExS.nil
    with_reducible refine' ExS.cons ?_ ?_
    with_reducible refine' ExS.aug ?_ ?_ Op2.iadd
    exact AccS.loc (i := 2) (by kernel_rfl) (by kernel_rfl) (by kernel_rfl)
    with_reducible refine' EvE.call1 (id := "len") (Says.bl ‹Lw _ _› ?_ ?_ ?_ ?_ ?_ ?_) ?_ OpH.len ?_
    rotate_left 1
    first | with_reducible rfl | kernel_rfl
    first | with_reducible rfl | kernel_rfl
    first | with_reducible rfl | kernel_rfl
    first | with_reducible rfl | kernel_rfl
    first | with_reducible rfl | kernel_rfl
    first | with_reducible rfl | kernel_rfl
    with_reducible refine' EvE.name ?_ ?_
    exact Acc.loc (i := 4) (by kernel_rfl) (by kernel_rfl) (by kernel_rfl)
    first | with_reducible rfl | kernel_rfl
    first | with_reducible rfl | kernel_rfl
    exact ExS.nil
    (intros; kernel_rfl)
    with_reducible refine' ExS.cons ?_ ?_
    with_reducible refine' ExS.ret ?_
    with_reducible refine' EvE.tuple ?_
    with_reducible refine' EvL.cons ?_ ?_ ?_
    with_reducible refine' EvE.join ?_ ?_ ?_ ?_ ?_
    first | with_reducible rfl | kernel_rfl
    with_reducible refine' EvE.name ?_ ?_
    exact Acc.loc (i := 1) (by kernel_rfl) (by kernel_rfl) (by kernel_rfl)
    first | with_reducible rfl | kernel_rfl
    first | with_reducible rfl | kernel_rfl
    first | with_reducible rfl | kernel_rfl
    first | with_reducible rfl | kernel_rfl
    with_reducible refine' EvL.cons ?_ ?_ ?_
    with_reducible refine' EvE.name ?_ ?_
    exact Acc.loc (i := 3) (by kernel_rfl) (by kernel_rfl) (by kernel_rfl)
    first | with_reducible rfl | kernel_rfl
    exact EvL.nil
    first | with_reducible rfl | kernel_rfl
    first | with_reducible rfl | kernel_rfl
    exact ExS.nil⟩
theorem EvE.folds {c : Cx} {A : Around} {sl : List Slot} {en : Env} {D : Ad} {k : Nat} {p pos : Pos} {e : Expr} {es : List Expr} {g : St → Option (List V × St)} (w : Lw c D) (r : Room A (k + 2)) (hk : en.scope.kind = .function) (hx : en.kindOf "_law_by_folds" = some .globalImplicit) (hg : en.globals = mainGlobals)
    (hl : EvL c A sl (spliced (backTo pos (starEach (e :: es) en))) g) (hs : starEach (e :: es) en = (false, eval e en) :: starEach es en) : EvE c A sl (eval (.Call (.Name "_law_by_folds" p) (e :: es) [] pos) en) (callsF (["signs", "folds", "behind", "places", "fold"] : List Str).length (["signs"] : List Str).length (foldsS.1) g) := by
  with_reducible refine EvE.callN (Says.gl w ?_ hk hx hg ?_) w.folds (form_folds D) r.go (fun L => foldsS.2 D c w _ ((r.mono (by omega)).deep _) L) hl hs
  · kernel_rfl
  · kernel_rfl
@[irreducible] noncomputable def lengthsS : { f : St → Option (Fl × St) // ∀ (D : Ad) (c : Cx) (_ : Lw c D) (A : Around) (_ : Room A 1) (L : Addr), ExS c A ((["mail", "sent", "shut", "places", "k"] : List Str).map (slotOf (F_lengths D).scope.names L)) (execs B_lengths (callEnvC (F_lengths D) L D.lengths)) f } :=
  ⟨_, fun D c w A r L => by
    delta B_lengths Bi_lengths
    dsimp only
    with_reducible refine' ExS.cons ?_ ?_
    with_reducible refine' ExS.assign ?_ ?_ ?_
    exact AccS.cel (i := 1) (by kernel_rfl) (by kernel_rfl) (by kernel_rfl) (by kernel_rfl)
    with_reducible refine' EvE.comp (xs := (["k"] : List Str)) 5 ?_ ?_ ?_ ?_ ?_
    rotate_left 1
    first | with_reducible rfl | kernel_rfl
    exact ⟨by rfl, by decide +kernel, by rfl, by decide +kernel, by decide +kernel, ⟨_, List.Mem.head _⟩⟩
    with_reducible refine' EvI.range1 (Says.bl ‹Lw _ _› ?_ ?_ ?_ ?_ ?_ ?_) ?_ ?_
    rotate_left 1
    first | with_reducible rfl | kernel_rfl
    first | with_reducible rfl | kernel_rfl
    first | with_reducible rfl | kernel_rfl
    first | with_reducible rfl | kernel_rfl
    first | with_reducible rfl | kernel_rfl
    first | with_reducible rfl | kernel_rfl
    with_reducible refine' EvE.binop ?_ ?_ Op2.add
    with_reducible refine' EvE.call1 (id := "len") (Says.bl ‹Lw _ _› ?_ ?_ ?_ ?_ ?_ ?_) ?_ OpH.len ?_
    rotate_left 1
    first | with_reducible rfl | kernel_rfl
    first | with_reducible rfl | kernel_rfl
    first | with_reducible rfl | kernel_rfl
    first | with_reducible rfl | kernel_rfl
    first | with_reducible rfl | kernel_rfl
    first | with_reducible rfl | kernel_rfl
    with_reducible refine' EvE.name ?_ ?_
    exact Acc.cel (i := 0) (by kernel_rfl) (by kernel_rfl) (by kernel_rfl) (by kernel_rfl)
    first | with_reducible rfl | kernel_rfl
    first | with_reducible rfl | kernel_rfl
    with_reducible exact EvE.int
    first | with_reducible rfl | kernel_rfl
    intro C
    with_reducible refine' LoopJ.l1 ‹Room _ _›.calm ?_ ?_
    rotate_left 2
    exact AccS.loc (i := 5) (by kernel_rfl) (by kernel_rfl) (by kernel_rfl)
    with_reducible refine' EvE.call1 (id := "len") (Says.bl ‹Lw _ _› ?_ ?_ ?_ ?_ ?_ ?_) ?_ OpH.len ?_
    rotate_left 1
    first | with_reducible rfl | kernel_rfl
    first | with_reducible rfl | kernel_rfl
    first | with_reducible rfl | kernel_rfl
    first | with_reducible rfl | kernel_rfl
    first | with_reducible rfl | kernel_rfl
    first | with_reducible rfl | kernel_rfl
    with_reducible refine' Mine.EvE.fix (k := 0) ‹Lw _ _› (Room.mono ‹Room _ _› (by decide)) ?_ ?_ ?_ ?_ ?_
    rotate_left 1
    first | with_reducible rfl | kernel_rfl
    first | with_reducible rfl | kernel_rfl
    first | with_reducible rfl | kernel_rfl
    with_reducible refine' EvL.cons ?_ ?_ ?_
    with_reducible refine' EvE.take ?_ ?_ ?_
    with_reducible refine' EvE.name ?_ ?_
    exact Acc.cel (i := 0) (by kernel_rfl) (by kernel_rfl) (by kernel_rfl) (by kernel_rfl)
    first | with_reducible rfl | kernel_rfl
    with_reducible refine' EvE.name ?_ ?_
    exact Acc.loc (i := 5) (by kernel_rfl) (by kernel_rfl) (by kernel_rfl)
    first | with_reducible rfl | kernel_rfl
    (intros; kernel_rfl)
    exact EvL.nil
    first | with_reducible rfl | kernel_rfl
    first | with_reducible rfl | kernel_rfl
    first | with_reducible rfl | kernel_rfl
    (intros; kernel_rfl)
    first | with_reducible rfl | kernel_rfl
    with_reducible refine' ExS.cons ?_ ?_
    with_reducible refine' exS_comp (xs := (["k"] : List Str)) 5 ?_ ?_ ?_ ?_ ?_ ?_ ?_
    rotate_left 1
    first | with_reducible rfl | kernel_rfl
    exact ⟨by rfl, by decide +kernel, by rfl, by decide +kernel, by decide +kernel, ⟨_, List.Mem.head _⟩⟩
    exact AccS.loc (i := 2) (by kernel_rfl) (by kernel_rfl) (by kernel_rfl)
    with_reducible refine' EvI.range1 (Says.bl ‹Lw _ _› ?_ ?_ ?_ ?_ ?_ ?_) ?_ ?_
    rotate_left 1
    first | with_reducible rfl | kernel_rfl
    first | with_reducible rfl | kernel_rfl
    first | with_reducible rfl | kernel_rfl
    first | with_reducible rfl | kernel_rfl
    first | with_reducible rfl | kernel_rfl
    first | with_reducible rfl | kernel_rfl
    with_reducible refine' EvE.binop ?_ ?_ Op2.add
    with_reducible refine' EvE.call1 (id := "len") (Says.bl ‹Lw _ _› ?_ ?_ ?_ ?_ ?_ ?_) ?_ OpH.len ?_
    rotate_left 1
    first | with_reducible rfl | kernel_rfl
    first | with_reducible rfl | kernel_rfl
    first | with_reducible rfl | kernel_rfl
    first | with_reducible rfl | kernel_rfl
    first | with_reducible rfl | kernel_rfl
    first | with_reducible rfl | kernel_rfl
    with_reducible refine' EvE.name ?_ ?_
    exact Acc.cel (i := 0) (by kernel_rfl) (by kernel_rfl) (by kernel_rfl) (by kernel_rfl)
    first | with_reducible rfl | kernel_rfl
    first | with_reducible rfl | kernel_rfl
    with_reducible exact EvE.int
    first | with_reducible rfl | kernel_rfl
    intro C
    with_reducible refine' LoopJ.l1 ‹Room _ _›.calm ?_ ?_
    rotate_left 2
    exact AccS.loc (i := 5) (by kernel_rfl) (by kernel_rfl) (by kernel_rfl)
    with_reducible refine' EvE.cmp ?_ ?_ Op2.gt ?_
    with_reducible refine' EvE.call1 (id := "len") (Says.bl ‹Lw _ _› ?_ ?_ ?_ ?_ ?_ ?_) ?_ OpH.len ?_
    rotate_left 1
    first | with_reducible rfl | kernel_rfl
    first | with_reducible rfl | kernel_rfl
    first | with_reducible rfl | kernel_rfl
    first | with_reducible rfl | kernel_rfl
    first | with_reducible rfl | kernel_rfl
    first | with_reducible rfl | kernel_rfl
    with_reducible refine' Mine.EvE.fix (k := 0) ‹Lw _ _› (Room.mono ‹Room _ _› (by decide)) ?_ ?_ ?_ ?_ ?_
    rotate_left 1
    first | with_reducible rfl | kernel_rfl
    first | with_reducible rfl | kernel_rfl
    first | with_reducible rfl | kernel_rfl
    with_reducible refine' EvL.cons ?_ ?_ ?_
    with_reducible refine' EvE.binop ?_ ?_ Op2.add
    with_reducible refine' EvE.take ?_ ?_ ?_
    with_reducible refine' EvE.name ?_ ?_
    exact Acc.cel (i := 0) (by kernel_rfl) (by kernel_rfl) (by kernel_rfl) (by kernel_rfl)
    first | with_reducible rfl | kernel_rfl
    with_reducible refine' EvE.name ?_ ?_
    exact Acc.loc (i := 5) (by kernel_rfl) (by kernel_rfl) (by kernel_rfl)
    first | with_reducible rfl | kernel_rfl
    (intros; kernel_rfl)
    with_reducible refine' EvE.str (l := [10]) ?_
    first | with_reducible rfl | kernel_rfl
    exact EvL.nil
    first | with_reducible rfl | kernel_rfl
    first | with_reducible rfl | kernel_rfl
    first | with_reducible rfl | kernel_rfl
    with_reducible refine' EvE.item ?_ ?_ ?_ ?_
    with_reducible refine' EvE.name ?_ ?_
    exact Acc.cel (i := 1) (by kernel_rfl) (by kernel_rfl) (by kernel_rfl) (by kernel_rfl)
    first | with_reducible rfl | kernel_rfl
    with_reducible refine' EvE.name ?_ ?_
    exact Acc.loc (i := 5) (by kernel_rfl) (by kernel_rfl) (by kernel_rfl)
    first | with_reducible rfl | kernel_rfl
    (intros; kernel_rfl)
    (intros; kernel_rfl)
    first | with_reducible rfl | kernel_rfl
    first | with_reducible rfl | kernel_rfl
    (intros; kernel_rfl)
    with_reducible refine' ExS.cons ?_ ?_
    with_reducible refine' ExS.assign ?_ ?_ ?_
    exact AccS.loc (i := 3) (by kernel_rfl) (by kernel_rfl) (by kernel_rfl)
    with_reducible refine' EvE.ite ?_ ?_ ?_
    with_reducible refine' EvB.value ?_ ?_
    with_reducible refine' EvE.item ?_ ?_ ?_ ?_
    with_reducible refine' EvE.name ?_ ?_
    exact Acc.loc (i := 2) (by kernel_rfl) (by kernel_rfl) (by kernel_rfl)
    first | with_reducible rfl | kernel_rfl
    with_reducible refine' EvE.unop ?_ Op1.neg
    with_reducible exact EvE.int
    (intros; kernel_rfl)
    (intros; kernel_rfl)
    (intros; kernel_rfl)
    with_reducible refine' EvE.list ?_
    exact EvL.nil
    with_reducible refine' EvE.list ?_
    with_reducible refine' EvL.cons ?_ ?_ ?_
    with_reducible exact EvE.int
    exact EvL.nil
    first | with_reducible rfl | kernel_rfl
    first | with_reducible rfl | kernel_rfl
    with_reducible refine' ExS.cons ?_ ?_
    with_reducible refine' ExS.for_ 100 ‹Room _ _›.calm ?_ ?_ ?_ ?_
    rotate_left 3
    exact AccS.loc (i := 4) (by kernel_rfl) (by kernel_rfl) (by kernel_rfl)
    with_reducible refine' EvI.range3 (Says.bl ‹Lw _ _› ?_ ?_ ?_ ?_ ?_ ?_) ?_ ?_ ?_
    rotate_left 1
    first | with_reducible rfl | kernel_rfl
    first | with_reducible rfl | kernel_rfl
    first | with_reducible rfl | kernel_rfl
    first | with_reducible rfl | kernel_rfl
    first | with_reducible rfl | kernel_rfl
    first | with_reducible rfl | kernel_rfl
    with_reducible refine' EvL.cons ?_ ?_ ?_
    with_reducible refine' EvE.call1 (id := "len") (Says.bl ‹Lw _ _› ?_ ?_ ?_ ?_ ?_ ?_) ?_ OpH.len ?_
    rotate_left 1
    first | with_reducible rfl | kernel_rfl
    first | with_reducible rfl | kernel_rfl
    first | with_reducible rfl | kernel_rfl
    first | with_reducible rfl | kernel_rfl
    first | with_reducible rfl | kernel_rfl
    first | with_reducible rfl | kernel_rfl
    with_reducible refine' EvE.name ?_ ?_
    exact Acc.cel (i := 0) (by kernel_rfl) (by kernel_rfl) (by kernel_rfl) (by kernel_rfl)
    first | with_reducible rfl | kernel_rfl
    first | with_reducible rfl | kernel_rfl
    with_reducible refine' EvL.cons ?_ ?_ ?_
    with_reducible exact EvE.int
    with_reducible refine' EvL.cons ?_ ?_ ?_
    with_reducible refine' EvE.unop ?_ Op1.neg
    with_reducible exact EvE.int
    exact EvL.nil
    first | with_reducible rfl | kernel_rfl
    first | with_reducible rfl | kernel_rfl
    first | with_reducible rfl | kernel_rfl
    first | with_reducible rfl | kernel_rfl
    first | with_reducible rfl | kernel_rfl
    with_reducible refine' ExS.cons ?_ ?_
    with_reducible refine' ExS.ite ?_ ?_ ?_
    with_reducible refine' EvB.cmp ?_ ?_ Op2.eq ?_
    with_reducible refine' EvE.item ?_ ?_ ?_ ?_
    with_reducible refine' EvE.name ?_ ?_
    exact Acc.loc (i := 2) (by kernel_rfl) (by kernel_rfl) (by kernel_rfl)
    first | with_reducible rfl | kernel_rfl
    with_reducible refine' EvE.name ?_ ?_
    exact Acc.loc (i := 4) (by kernel_rfl) (by kernel_rfl) (by kernel_rfl)
    first | with_reducible rfl | kernel_rfl
    (intros; kernel_rfl)
    (intros; kernel_rfl)
    with_reducible refine' EvE.item ?_ ?_ ?_ ?_
    with_reducible refine' EvE.name ?_ ?_
    exact Acc.loc (i := 2) (by kernel_rfl) (by kernel_rfl) (by kernel_rfl)
    first | with_reducible rfl | kernel_rfl
    with_reducible refine' EvE.binop ?_ ?_ Op2.sub
    with_reducible refine' EvE.name ?_ ?_
    exact Acc.loc (i := 4) (by kernel_rfl) (by kernel_rfl) (by kernel_rfl)
    first | with_reducible rfl | kernel_rfl
    with_reducible exact EvE.int
    (intros; kernel_rfl)
    (intros; kernel_rfl)
    first | with_reducible rfl | kernel_rfl
    with_reducible refine' ExS.cons ?_ ?_
    with_reducible refine' ExS.expr ?_ ?_ ?_
    with_reducible refine' EvE.append ?_ ?_ ?_ ?_ ?_ ?_
    exact Acc.loc (i := 3) (by kernel_rfl) (by kernel_rfl) (by kernel_rfl)
    with_reducible refine' EvE.binop ?_ ?_ Op2.add
    with_reducible refine' EvE.binop ?_ ?_ Op2.sub
    with_reducible refine' EvE.item ?_ ?_ ?_ ?_
    with_reducible refine' EvE.name ?_ ?_
    exact Acc.cel (i := 1) (by kernel_rfl) (by kernel_rfl) (by kernel_rfl) (by kernel_rfl)
    first | with_reducible rfl | kernel_rfl
    with_reducible refine' EvE.unop ?_ Op1.neg
    with_reducible exact EvE.int
    (intros; kernel_rfl)
    (intros; kernel_rfl)
    with_reducible refine' EvE.item ?_ ?_ ?_ ?_
    with_reducible refine' EvE.name ?_ ?_
    exact Acc.cel (i := 1) (by kernel_rfl) (by kernel_rfl) (by kernel_rfl) (by kernel_rfl)
    first | with_reducible rfl | kernel_rfl
    with_reducible refine' EvE.name ?_ ?_
    exact Acc.loc (i := 4) (by kernel_rfl) (by kernel_rfl) (by kernel_rfl)
    first | with_reducible rfl | kernel_rfl
    (intros; kernel_rfl)
    (intros; kernel_rfl)
    with_reducible refine' EvE.ite ?_ ?_ ?_
    with_reducible refine' EvB.value ?_ ?_
    with_reducible refine' EvE.item ?_ ?_ ?_ ?_
    with_reducible refine' EvE.name ?_ ?_
    exact Acc.loc (i := 2) (by kernel_rfl) (by kernel_rfl) (by kernel_rfl)
    first | with_reducible rfl | kernel_rfl
    with_reducible refine' EvE.name ?_ ?_
    exact Acc.loc (i := 4) (by kernel_rfl) (by kernel_rfl) (by kernel_rfl)
    first | with_reducible rfl | kernel_rfl
    (intros; kernel_rfl)
    (intros; kernel_rfl)
    (intros; kernel_rfl)
    with_reducible exact EvE.int
    with_reducible exact EvE.int
    first | with_reducible rfl | kernel_rfl
    first | with_reducible rfl | kernel_rfl
    first | with_reducible rfl | kernel_rfl
    first | with_reducible rfl | kernel_rfl
    first | with_reducible rfl | kernel_rfl
    first | with_reducible rfl | kernel_rfl
    exact ExS.nil
    exact ExS.nil
    exact ExS.nil
    (intros; kernel_rfl)
    with_reducible refine' ExS.cons ?_ ?_
    with_reducible refine' ExS.ret ?_
    with_reducible refine' EvE.name ?_ ?_
    exact Acc.loc (i := 3) (by kernel_rfl) (by kernel_rfl) (by kernel_rfl)
    first | with_reducible rfl | kernel_rfl
    exact ExS.nil⟩
theorem EvE.lengths {c : Cx} {A : Around} {sl : List Slot} {en : Env} {D : Ad} {k : Nat} {p pos : Pos} {e : Expr} {es : List Expr} {g : St → Option (List V × St)} (w : Lw c D) (r : Room A (k + 2)) (hk : en.scope.kind = .function) (hx : en.kindOf "_law_by_lengths" = some .globalImplicit) (hg : en.globals = mainGlobals)
    (hl : EvL c A sl (spliced (backTo pos (starEach (e :: es) en))) g) (hs : starEach (e :: es) en = (false, eval e en) :: starEach es en) : EvE c A sl (eval (.Call (.Name "_law_by_lengths" p) (e :: es) [] pos) en) (callsF (["mail", "sent", "shut", "places", "k"] : List Str).length (["mail"] : List Str).length (lengthsS.1) g) := by
  with_reducible refine EvE.callN (Says.gl w ?_ hk hx hg ?_) w.lengths (form_lengths D) r.go (fun L => lengthsS.2 D c w _ ((r.mono (by omega)).deep _) L) hl hs
  · kernel_rfl
  · kernel_rfl
noncomputable def Pi0 : { s : Stmt // nthS B_product 0 = s } := by refine ⟨?a, ?b⟩; case b => conv => lhs; whnf
noncomputable def PiR : { s : List Stmt // B_product.tail = s } := by refine ⟨?a, ?b⟩; case b => conv => lhs; whnf
theorem product_list : B_product = Pi0.1 :: PiR.1 := by kernel_rfl
@[irreducible] noncomputable def p0S : { f : St → Option (Fl × St) // ∀ (D : Ad) (c : Cx) (_ : Lw c D) (A : Around) (_ : Room A 2) (L : Addr), ExS c A ((["numbers", "one", "other", "number", "rows", "sizes", "left", "to_come", "mail", "last", "size", "prepared", "places", "same"] : List Str).map (slotOf (F_product D).scope.names L)) (exec Pi0.1 (callEnvC (F_product D) L D.product)) f } :=
  ⟨_, fun D c w A r L => by
    delta Pi0
    dsimp only
    with_reducible refine' ExS.assign ?_ ?_ ?_
    exact AccS.loc (i := 3) (by kernel_rfl) (by kernel_rfl) (by kernel_rfl)
    with_reducible refine' EvE.call1 (id := "sum") (Says.bl ‹Lw _ _› ?_ ?_ ?_ ?_ ?_ ?_) ?_ (OpH.sum ‹Room _ _›.calm) ?_
    rotate_left 1
    first | with_reducible rfl | kernel_rfl
    first | with_reducible rfl | kernel_rfl
    first | with_reducible rfl | kernel_rfl
    first | with_reducible rfl | kernel_rfl
    first | with_reducible rfl | kernel_rfl
    first | with_reducible rfl | kernel_rfl
    with_reducible refine' EvE.comp (xs := (["i", "j"] : List Str)) 14 ?_ ?_ ?_ ?_ ?_
    rotate_left 1
    first | with_reducible rfl | kernel_rfl
    exact ⟨by rfl, by decide +kernel, by rfl, by decide +kernel, by decide +kernel, ⟨_, List.Mem.head _⟩⟩
    with_reducible refine' EvI.value ?_
    with_reducible refine' EvE.name ?_ ?_
    exact Acc.loc (i := 1) (by kernel_rfl) (by kernel_rfl) (by kernel_rfl)
    first | with_reducible rfl | kernel_rfl
    intro C
    with_reducible refine' LoopJ.l2a ‹Room _ _›.calm ?_ ?_ ?_ ?_
    rotate_left 3
    exact AccS.loc (i := 14) (by kernel_rfl) (by kernel_rfl) (by kernel_rfl)
    with_reducible refine' EvI.value ?_
    with_reducible refine' EvE.name ?_ ?_
    exact Acc.cel (i := 2) (by kernel_rfl) (by kernel_rfl) (by kernel_rfl) (by kernel_rfl)
    first | with_reducible rfl | kernel_rfl
    with_reducible refine' LoopJ.l2b ‹Room _ _›.calm ?_ ?_
    rotate_left 2
    exact AccS.loc (i := 15) (by kernel_rfl) (by kernel_rfl) (by kernel_rfl)
    with_reducible refine' EvE.item ?_ ?_ ?_ ?_
    with_reducible refine' EvE.name ?_ ?_
    exact Acc.cel (i := 0) (by kernel_rfl) (by kernel_rfl) (by kernel_rfl) (by kernel_rfl)
    first | with_reducible rfl | kernel_rfl
    with_reducible refine' EvE.binop ?_ ?_ Op2.add
    with_reducible refine' EvE.name ?_ ?_
    exact Acc.loc (i := 14) (by kernel_rfl) (by kernel_rfl) (by kernel_rfl)
    first | with_reducible rfl | kernel_rfl
    with_reducible refine' EvE.name ?_ ?_
    exact Acc.loc (i := 15) (by kernel_rfl) (by kernel_rfl) (by kernel_rfl)
    first | with_reducible rfl | kernel_rfl
    (intros; kernel_rfl)
    (intros; kernel_rfl)
    (intros; kernel_rfl)
    (intros; kernel_rfl)
    first | with_reducible rfl | kernel_rfl
    first | with_reducible rfl | kernel_rfl⟩
@[irreducible] noncomputable def prS : { f : St → Option (Fl × St) // ∀ (D : Ad) (c : Cx) (_ : Lw c D) (A : Around) (_ : Room A 2) (L : Addr), ExS c A ((["numbers", "one", "other", "number", "rows", "sizes", "left", "to_come", "mail", "last", "size", "prepared", "places", "same"] : List Str).map (slotOf (F_product D).scope.names L)) (execs PiR.1 (callEnvC (F_product D) L D.product)) f } :=
  ⟨_, fun D c w A r L => by
    delta PiR
    dsimp only
    with_reducible refine' ExS.cons ?_ ?_
    with_reducible refine' ExS.assign ?_ ?_ ?_
    exact AccS.loc (i := 4) (by kernel_rfl) (by kernel_rfl) (by kernel_rfl)
    with_reducible exact EvE.int
    first | with_reducible rfl | kernel_rfl
    with_reducible refine' ExS.cons ?_ ?_
    with_reducible refine' ExS.while_ 100 ?_ ?_
    with_reducible refine' EvB.cmp ?_ ?_ Op2.ge ?_
    with_reducible refine' EvE.name ?_ ?_
    exact Acc.loc (i := 3) (by kernel_rfl) (by kernel_rfl) (by kernel_rfl)
    first | with_reducible rfl | kernel_rfl
    with_reducible refine' EvE.item ?_ ?_ ?_ ?_
    with_reducible refine' EvE.name ?_ ?_
    exact Acc.cel (i := 0) (by kernel_rfl) (by kernel_rfl) (by kernel_rfl) (by kernel_rfl)
    first | with_reducible rfl | kernel_rfl
    with_reducible refine' EvE.binop ?_ ?_ Op2.add
    with_reducible refine' EvE.binop ?_ ?_ Op2.mul
    with_reducible exact EvE.int
    with_reducible refine' EvE.name ?_ ?_
    exact Acc.loc (i := 4) (by kernel_rfl) (by kernel_rfl) (by kernel_rfl)
    first | with_reducible rfl | kernel_rfl
    with_reducible exact EvE.int
    (intros; kernel_rfl)
    (intros; kernel_rfl)
    first | with_reducible rfl | kernel_rfl
    with_reducible refine' ExS.cons ?_ ?_
    with_reducible refine' ExS.aug ?_ ?_ Op2.iadd
    exact AccS.loc (i := 4) (by kernel_rfl) (by kernel_rfl) (by kernel_rfl)
    with_reducible exact EvE.int
    exact ExS.nil
    with_reducible refine' ExS.cons ?_ ?_
    with_reducible refine' ExS.assign ?_ ?_ ?_
    exact AccS.loc (i := 5) (by kernel_rfl) (by kernel_rfl) (by kernel_rfl)
    with_reducible refine' EvE.list ?_
    exact EvL.nil
    first | with_reducible rfl | kernel_rfl
    with_reducible refine' ExS.cons ?_ ?_
    with_reducible refine' ExS.assign ?_ ?_ ?_
    exact AccS.loc (i := 6) (by kernel_rfl) (by kernel_rfl) (by kernel_rfl)
    with_reducible refine' EvE.name ?_ ?_
    exact Acc.loc (i := 3) (by kernel_rfl) (by kernel_rfl) (by kernel_rfl)
    first | with_reducible rfl | kernel_rfl
    first | with_reducible rfl | kernel_rfl
    with_reducible refine' ExS.cons ?_ ?_
    with_reducible refine' ExS.assign ?_ ?_ ?_
    exact AccS.loc (i := 7) (by kernel_rfl) (by kernel_rfl) (by kernel_rfl)
    with_reducible refine' EvE.binop ?_ ?_ Op2.add
    with_reducible refine' EvE.binop ?_ ?_ Op2.mul
    with_reducible exact EvE.int
    with_reducible refine' EvE.name ?_ ?_
    exact Acc.loc (i := 4) (by kernel_rfl) (by kernel_rfl) (by kernel_rfl)
    first | with_reducible rfl | kernel_rfl
    with_reducible exact EvE.int
    first | with_reducible rfl | kernel_rfl
    with_reducible refine' ExS.cons ?_ ?_
    with_reducible refine' ExS.while_ 100 ?_ ?_
    with_reducible refine' EvB.cmp ?_ ?_ Op2.gt ?_
    with_reducible refine' EvE.name ?_ ?_
    exact Acc.loc (i := 7) (by kernel_rfl) (by kernel_rfl) (by kernel_rfl)
    first | with_reducible rfl | kernel_rfl
    with_reducible exact EvE.int
    first | with_reducible rfl | kernel_rfl
    with_reducible refine' ExS.cons ?_ ?_
    with_reducible refine' ExS.ite ?_ ?_ ?_
    with_reducible refine' EvB.and ?_ ?_
    with_reducible refine' EvB.cmp ?_ ?_ Op2.gt ?_
    with_reducible refine' EvE.name ?_ ?_
    exact Acc.loc (i := 7) (by kernel_rfl) (by kernel_rfl) (by kernel_rfl)
    first | with_reducible rfl | kernel_rfl
    with_reducible exact EvE.int
    first | with_reducible rfl | kernel_rfl
    with_reducible refine' EvB.cmp ?_ ?_ Op2.ge ?_
    with_reducible refine' EvE.name ?_ ?_
    exact Acc.loc (i := 6) (by kernel_rfl) (by kernel_rfl) (by kernel_rfl)
    first | with_reducible rfl | kernel_rfl
    with_reducible refine' EvE.item ?_ ?_ ?_ ?_
    with_reducible refine' EvE.name ?_ ?_
    exact Acc.cel (i := 0) (by kernel_rfl) (by kernel_rfl) (by kernel_rfl) (by kernel_rfl)
    first | with_reducible rfl | kernel_rfl
    with_reducible refine' EvE.name ?_ ?_
    exact Acc.loc (i := 7) (by kernel_rfl) (by kernel_rfl) (by kernel_rfl)
    first | with_reducible rfl | kernel_rfl
    (intros; kernel_rfl)
    (intros; kernel_rfl)
    first | with_reducible rfl | kernel_rfl
    with_reducible refine' ExS.cons ?_ ?_
    with_reducible refine' ExS.expr ?_ ?_ ?_
    with_reducible refine' EvE.append ?_ ?_ ?_ ?_ ?_ ?_
    exact Acc.loc (i := 5) (by kernel_rfl) (by kernel_rfl) (by kernel_rfl)
    with_reducible exact EvE.int
    first | with_reducible rfl | kernel_rfl
    first | with_reducible rfl | kernel_rfl
    first | with_reducible rfl | kernel_rfl
    first | with_reducible rfl | kernel_rfl
    first | with_reducible rfl | kernel_rfl
    first | with_reducible rfl | kernel_rfl
    with_reducible refine' ExS.cons ?_ ?_
    with_reducible refine' ExS.aug ?_ ?_ Op2.isub
    exact AccS.loc (i := 6) (by kernel_rfl) (by kernel_rfl) (by kernel_rfl)
    with_reducible refine' EvE.item ?_ ?_ ?_ ?_
    with_reducible refine' EvE.name ?_ ?_
    exact Acc.cel (i := 0) (by kernel_rfl) (by kernel_rfl) (by kernel_rfl) (by kernel_rfl)
    first | with_reducible rfl | kernel_rfl
    with_reducible refine' EvE.name ?_ ?_
    exact Acc.loc (i := 7) (by kernel_rfl) (by kernel_rfl) (by kernel_rfl)
    first | with_reducible rfl | kernel_rfl
    (intros; kernel_rfl)
    (intros; kernel_rfl)
    exact ExS.nil
    with_reducible refine' ExS.cons ?_ ?_
    with_reducible refine' ExS.expr ?_ ?_ ?_
    with_reducible refine' EvE.append ?_ ?_ ?_ ?_ ?_ ?_
    exact Acc.loc (i := 5) (by kernel_rfl) (by kernel_rfl) (by kernel_rfl)
    with_reducible exact EvE.int
    first | with_reducible rfl | kernel_rfl
    first | with_reducible rfl | kernel_rfl
    first | with_reducible rfl | kernel_rfl
    first | with_reducible rfl | kernel_rfl
    first | with_reducible rfl | kernel_rfl
    first | with_reducible rfl | kernel_rfl
    exact ExS.nil
    with_reducible refine' ExS.cons ?_ ?_
    with_reducible refine' ExS.aug ?_ ?_ Op2.isub
    exact AccS.loc (i := 7) (by kernel_rfl) (by kernel_rfl) (by kernel_rfl)
    with_reducible refine' EvE.item ?_ ?_ ?_ ?_
    with_reducible refine' EvE.name ?_ ?_
    exact Acc.loc (i := 5) (by kernel_rfl) (by kernel_rfl) (by kernel_rfl)
    first | with_reducible rfl | kernel_rfl
    with_reducible refine' EvE.unop ?_ Op1.neg
    with_reducible exact EvE.int
    (intros; kernel_rfl)
    (intros; kernel_rfl)
    exact ExS.nil
    with_reducible refine' ExS.cons ?_ ?_
    with_reducible refine' ExS.assign ?_ ?_ ?_
    exact AccS.loc (i := 8) (by kernel_rfl) (by kernel_rfl) (by kernel_rfl)
    with_reducible refine' EvE.str (l := []) ?_
    first | with_reducible rfl | kernel_rfl
    first | with_reducible rfl | kernel_rfl
    with_reducible refine' ExS.cons ?_ ?_
    with_reducible refine' ExS.assign ?_ ?_ ?_
    exact AccS.loc (i := 9) (by kernel_rfl) (by kernel_rfl) (by kernel_rfl)
    with_reducible refine' EvE.str (l := [10]) ?_
    first | with_reducible rfl | kernel_rfl
    first | with_reducible rfl | kernel_rfl
    with_reducible refine' ExS.cons ?_ ?_
    with_reducible refine' ExS.for_ 100 ‹Room _ _›.calm ?_ ?_ ?_ ?_
    rotate_left 3
    exact AccS.loc (i := 10) (by kernel_rfl) (by kernel_rfl) (by kernel_rfl)
    with_reducible refine' EvI.value ?_
    with_reducible refine' EvE.slice ?_ ?_ ?_ ?_ ?_ ?_
    with_reducible refine' EvE.name ?_ ?_
    exact Acc.loc (i := 5) (by kernel_rfl) (by kernel_rfl) (by kernel_rfl)
    first | with_reducible rfl | kernel_rfl
    exact EvP.none
    with_reducible refine' EvP.some ?_
    with_reducible refine' EvE.unop ?_ Op1.neg
    with_reducible exact EvE.int
    exact EvP.none
    first | exact ⟨true, fun _ _ => by rfl⟩ | exact ⟨false, fun _ _ => by rfl⟩
    (intros; kernel_rfl)
    with_reducible refine' ExS.cons ?_ ?_
    with_reducible refine' ExS.ite ?_ ?_ ?_
    with_reducible refine' EvB.cmp ?_ ?_ Op2.eq ?_
    with_reducible refine' EvE.name ?_ ?_
    exact Acc.loc (i := 10) (by kernel_rfl) (by kernel_rfl) (by kernel_rfl)
    first | with_reducible rfl | kernel_rfl
    with_reducible exact EvE.int
    first | with_reducible rfl | kernel_rfl
    with_reducible refine' ExS.cons ?_ ?_
    with_reducible refine' ExS.assign ?_ ?_ ?_
    exact AccS.loc (i := 9) (by kernel_rfl) (by kernel_rfl) (by kernel_rfl)
    with_reducible refine' EvE.ite ?_ ?_ ?_
    with_reducible refine' EvB.cmp ?_ ?_ Op2.eq ?_
    with_reducible refine' EvE.name ?_ ?_
    exact Acc.loc (i := 9) (by kernel_rfl) (by kernel_rfl) (by kernel_rfl)
    first | with_reducible rfl | kernel_rfl
    with_reducible refine' EvE.str (l := [10]) ?_
    first | with_reducible rfl | kernel_rfl
    first | with_reducible rfl | kernel_rfl
    with_reducible refine' EvE.str (l := [13]) ?_
    first | with_reducible rfl | kernel_rfl
    with_reducible refine' EvE.str (l := [10]) ?_
    first | with_reducible rfl | kernel_rfl
    first | with_reducible rfl | kernel_rfl
    exact ExS.nil
    exact ExS.nil
    with_reducible refine' ExS.cons ?_ ?_
    with_reducible refine' ExS.aug ?_ ?_ Op2.iadd
    exact AccS.loc (i := 8) (by kernel_rfl) (by kernel_rfl) (by kernel_rfl)
    with_reducible refine' EvE.name ?_ ?_
    exact Acc.loc (i := 9) (by kernel_rfl) (by kernel_rfl) (by kernel_rfl)
    first | with_reducible rfl | kernel_rfl
    exact ExS.nil
    (intros; kernel_rfl)
    with_reducible refine' ExS.cons ?_ ?_
    with_reducible refine' ExS.unpack ‹Room _ _›.calm ?_ ?_ ?_ ?_
    rotate_left 2
    first | exact All2.nil | refine' All2.cons ⟨_, _, rfl, ?_⟩ ?_
    rotate_left 2
    exact AccS.loc (i := 11) (by kernel_rfl) (by kernel_rfl) (by kernel_rfl)
    first | exact All2.nil | refine' All2.cons ⟨_, _, rfl, ?_⟩ ?_
    rotate_left 2
    exact AccS.loc (i := 12) (by kernel_rfl) (by kernel_rfl) (by kernel_rfl)
    first | exact All2.nil | refine' All2.cons ⟨_, _, rfl, ?_⟩ ?_
    with_reducible refine' Mine.EvE.folds (k := 0) ‹Lw _ _› (Room.mono ‹Room _ _› (by decide)) ?_ ?_ ?_ ?_ ?_
    rotate_left 1
    first | with_reducible rfl | kernel_rfl
    first | with_reducible rfl | kernel_rfl
    first | with_reducible rfl | kernel_rfl
    with_reducible refine' EvL.cons ?_ ?_ ?_
    with_reducible refine' Mine.EvE.spelled (k := 0) ‹Lw _ _› (Room.mono ‹Room _ _› (by decide)) ?_ ?_ ?_ ?_ ?_
    rotate_left 1
    first | with_reducible rfl | kernel_rfl
    first | with_reducible rfl | kernel_rfl
    first | with_reducible rfl | kernel_rfl
    with_reducible refine' EvL.cons ?_ ?_ ?_
    with_reducible refine' EvE.name ?_ ?_
    exact Acc.loc (i := 5) (by kernel_rfl) (by kernel_rfl) (by kernel_rfl)
    first | with_reducible rfl | kernel_rfl
    with_reducible refine' EvL.cons ?_ ?_ ?_
    with_reducible refine' EvE.name ?_ ?_
    exact Acc.loc (i := 3) (by kernel_rfl) (by kernel_rfl) (by kernel_rfl)
    first | with_reducible rfl | kernel_rfl
    exact EvL.nil
    first | with_reducible rfl | kernel_rfl
    first | with_reducible rfl | kernel_rfl
    first | with_reducible rfl | kernel_rfl
    exact EvL.nil
    first | with_reducible rfl | kernel_rfl
    first | with_reducible rfl | kernel_rfl
    first | with_reducible rfl | kernel_rfl
    first | with_reducible rfl | kernel_rfl
    with_reducible refine' ExS.cons ?_ ?_
    with_reducible refine' ExS.assign ?_ ?_ ?_
    exact AccS.loc (i := 13) (by kernel_rfl) (by kernel_rfl) (by kernel_rfl)
    with_reducible refine' EvE.and ?_ ?_
    with_reducible refine' EvE.cmp ?_ ?_ Op2.eq ?_
    with_reducible refine' EvE.name ?_ ?_
    exact Acc.loc (i := 11) (by kernel_rfl) (by kernel_rfl) (by kernel_rfl)
    first | with_reducible rfl | kernel_rfl
    with_reducible refine' EvE.binop ?_ ?_ Op2.mul
    with_reducible refine' EvE.str (l := [102]) ?_
    first | with_reducible rfl | kernel_rfl
    with_reducible refine' EvE.binop ?_ ?_ Op2.add
    with_reducible refine' EvE.binop ?_ ?_ Op2.mul
    with_reducible exact EvE.int
    with_reducible refine' EvE.name ?_ ?_
    exact Acc.loc (i := 4) (by kernel_rfl) (by kernel_rfl) (by kernel_rfl)
    first | with_reducible rfl | kernel_rfl
    with_reducible exact EvE.int
    first | with_reducible rfl | kernel_rfl
    with_reducible refine' EvE.cmp ?_ ?_ Op2.eq ?_
    with_reducible refine' Mine.EvE.fix (k := 0) ‹Lw _ _› (Room.mono ‹Room _ _› (by decide)) ?_ ?_ ?_ ?_ ?_
    rotate_left 1
    first | with_reducible rfl | kernel_rfl
    first | with_reducible rfl | kernel_rfl
    first | with_reducible rfl | kernel_rfl
    with_reducible refine' EvL.cons ?_ ?_ ?_
    with_reducible refine' EvE.name ?_ ?_
    exact Acc.loc (i := 8) (by kernel_rfl) (by kernel_rfl) (by kernel_rfl)
    first | with_reducible rfl | kernel_rfl
    exact EvL.nil
    first | with_reducible rfl | kernel_rfl
    first | with_reducible rfl | kernel_rfl
    with_reducible refine' EvE.binop ?_ ?_ Op2.mul
    with_reducible refine' EvE.str (l := [13, 10]) ?_
    first | with_reducible rfl | kernel_rfl
    with_reducible refine' EvE.name ?_ ?_
    exact Acc.loc (i := 4) (by kernel_rfl) (by kernel_rfl) (by kernel_rfl)
    first | with_reducible rfl | kernel_rfl
    first | with_reducible rfl | kernel_rfl
    first | with_reducible rfl | kernel_rfl
    with_reducible refine' ExS.cons ?_ ?_
    with_reducible refine' ExS.ret ?_
    with_reducible refine' EvE.tuple ?_
    with_reducible refine' EvL.cons ?_ ?_ ?_
    with_reducible refine' EvE.and ?_ ?_
    with_reducible refine' EvE.name ?_ ?_
    exact Acc.loc (i := 13) (by kernel_rfl) (by kernel_rfl) (by kernel_rfl)
    first | with_reducible rfl | kernel_rfl
    with_reducible refine' EvE.cmp ?_ ?_ Op2.eq ?_
    with_reducible refine' EvE.call1 (id := "sum") (Says.bl ‹Lw _ _› ?_ ?_ ?_ ?_ ?_ ?_) ?_ (OpH.sum ‹Room _ _›.calm) ?_
    rotate_left 1
    first | with_reducible rfl | kernel_rfl
    first | with_reducible rfl | kernel_rfl
    first | with_reducible rfl | kernel_rfl
    first | with_reducible rfl | kernel_rfl
    first | with_reducible rfl | kernel_rfl
    first | with_reducible rfl | kernel_rfl
    with_reducible refine' EvE.comp (xs := (["place"] : List Str)) 14 ?_ ?_ ?_ ?_ ?_
    rotate_left 1
    first | with_reducible rfl | kernel_rfl
    exact ⟨by rfl, by decide +kernel, by rfl, by decide +kernel, by decide +kernel, ⟨_, List.Mem.head _⟩⟩
    with_reducible refine' EvI.value ?_
    with_reducible refine' EvE.name ?_ ?_
    exact Acc.loc (i := 12) (by kernel_rfl) (by kernel_rfl) (by kernel_rfl)
    first | with_reducible rfl | kernel_rfl
    intro C
    with_reducible refine' LoopJ.l1 ‹Room _ _›.calm ?_ ?_
    rotate_left 2
    exact AccS.loc (i := 14) (by kernel_rfl) (by kernel_rfl) (by kernel_rfl)
    with_reducible refine' EvE.item ?_ ?_ ?_ ?_
    with_reducible refine' EvE.name ?_ ?_
    exact Acc.cel (i := 0) (by kernel_rfl) (by kernel_rfl) (by kernel_rfl) (by kernel_rfl)
    first | with_reducible rfl | kernel_rfl
    with_reducible refine' EvE.name ?_ ?_
    exact Acc.loc (i := 14) (by kernel_rfl) (by kernel_rfl) (by kernel_rfl)
    first | with_reducible rfl | kernel_rfl
    (intros; kernel_rfl)
    (intros; kernel_rfl)
    (intros; kernel_rfl)
    first | with_reducible rfl | kernel_rfl
    with_reducible refine' EvE.name ?_ ?_
    exact Acc.loc (i := 3) (by kernel_rfl) (by kernel_rfl) (by kernel_rfl)
    first | with_reducible rfl | kernel_rfl
    first | with_reducible rfl | kernel_rfl
    with_reducible refine' EvL.cons ?_ ?_ ?_
    with_reducible refine' EvE.name ?_ ?_
    exact Acc.loc (i := 12) (by kernel_rfl) (by kernel_rfl) (by kernel_rfl)
    first | with_reducible rfl | kernel_rfl
    exact EvL.nil
    first | with_reducible rfl | kernel_rfl
    first | with_reducible rfl | kernel_rfl
    exact ExS.nil⟩
@[irreducible] noncomputable def productS : { f : St → Option (Fl × St) // ∀ (D : Ad) (c : Cx) (_ : Lw c D) (A : Around) (_ : Room A 2) (L : Addr), ExS c A ((["numbers", "one", "other", "number", "rows", "sizes", "left", "to_come", "mail", "last", "size", "prepared", "places", "same"] : List Str).map (slotOf (F_product D).scope.names L)) (execs B_product (callEnvC (F_product D) L D.product)) f } :=
  ⟨seqF p0S.1 (restF prS.1), fun D c w A r L => by
    have key : ∀ B : List Stmt, B = Pi0.1 :: PiR.1 → ExS c A ((["numbers", "one", "other", "number", "rows", "sizes", "left", "to_come", "mail", "last", "size", "prepared", "places", "same"] : List Str).map (slotOf (F_product D).scope.names L)) (execs B (callEnvC (F_product D) L D.product)) (seqF p0S.1 (restF prS.1)) := by
      rintro _ rfl
      exact ExS.cons (p0S.2 D c w A r L) (ExS.rest (prS.2 D c w A r L))
    exact key _ product_list⟩
theorem EvE.product {c : Cx} {A : Around} {sl : List Slot} {en : Env} {D : Ad} {k : Nat} {p pos : Pos} {e : Expr} {es : List Expr} {g : St → Option (List V × St)} (w : Lw c D) (r : Room A (k + 3)) (hk : en.scope.kind = .function) (hx : en.kindOf "_law_product" = some .globalImplicit) (hg : en.globals = mainGlobals)
    (hl : EvL c A sl (spliced (backTo pos (starEach (e :: es) en))) g) (hs : starEach (e :: es) en = (false, eval e en) :: starEach es en) : EvE c A sl (eval (.Call (.Name "_law_product" p) (e :: es) [] pos) en) (callsF (["numbers", "one", "other", "number", "rows", "sizes", "left", "to_come", "mail", "last", "size", "prepared", "places", "same"] : List Str).length (["numbers", "one", "other"] : List Str).length (productS.1) g) := by
  with_reducible refine EvE.callN (Says.gl w ?_ hk hx hg ?_) w.product (form_product D) r.go (fun L => productS.2 D c w _ ((r.mono (by omega)).deep _) L) hl hs
  · kernel_rfl
  · kernel_rfl
end Mine

-- M16
namespace Mine
noncomputable def intL (l : List Int) : O := .list (l.map (V.int 0 ·))
noncomputable def start (n : Nat) (vs : List V) (h : List O) : Mine.St := { v := vs.map some ++ List.replicate (n - vs.length) none, h := h }
/-- a list of ints in the heap -/
noncomputable def intsAt (h : List O) (j : Nat) : Option (List Int) := match h[j]? with
  | some (.list l) => intsOf l
  | _ => none
noncomputable def fibL : Nat → Int → Int → List Int
  | 0, a, b => [a, b]
  | n + 1, a, b => a :: fibL n b (a + b)
noncomputable def fibN : List Int := fibL 40 0 1
/-- what the product gives: two same lists of ints -/
noncomputable def prodOut (o : Option (Fl × Mine.St)) : Option (List Int) := match o with
  | some (.ret (.ref j), σ) => match σ.h[j]? with
    | some (.tup [.bool true, .ref i]) => intsAt σ.h i
    | _ => none
  | _ => none
noncomputable def prodP (p q : List Int) : Option (List Int) := prodOut (productS.1 (start 14 [.ref 0, .ref 1, .ref 2] [intL fibN, intL p, intL q]))
theorem tt : prodP [9,6,2] [5,3] = some [5,7,9,15] := by decide +kernel
end Mine

-- G1
namespace Mine
/-- from one state to another -/
noncomputable def Go (c : Cx) (A : Around) (sl : List Slot) (t : Sem Flow) (σ : Mine.St) (fl : Fl) (σ' : Mine.St) : Prop :=
  ∀ (h₀ : Heap) (α : List Addr) (s : Shared) (Q : Flow → Shared → Prop) (E : Value → Shared → Prop),
    c.ok h₀ → Inv c.z h₀ sl α σ s.heap →
    (∀ α' x h' tk, FlRep c.z α' fl x → Inv c.z h₀ sl α' σ' h' → Q x { s with heap := h', toks := tk }) → wpAny (model c.prog c.w) A t Q E s
noncomputable def inV (m : Nat) : V → Prop
  | .ref j => j < m
  | _ => True
noncomputable def inO (m : Nat) : O → Prop
  | .list l => ∀ v ∈ l, inV m v
  | .tup l => ∀ v ∈ l, inV m v
noncomputable def Less (m : Nat) : List (Option V) → List (Option V) → Prop
  | [], [] => True
  | a :: r, b :: t => (b = none ∨ (b = a ∧ ∀ v, a = some v → inV m v)) ∧ Less m r t
  | _, _ => False
theorem Less.get {m : Nat} : ∀ {l k : List (Option V)}, Less m l k → ∀ {i : Nat} {v : V}, k[i]? = some (some v) → l[i]? = some (some v) ∧ inV m v
  | [], [], _, _, _, e => by simp at e
  | a :: r, b :: t, h, 0, v, e => by
    simp at e
    rcases h.1 with q | ⟨q, hv⟩
    · rw [q] at e; cases e
    · subst q; subst e
      exact ⟨rfl, hv v rfl⟩
  | a :: r, b :: t, h, i + 1, v, e => by
    simp at e
    obtain ⟨x, y⟩ := h.2.get e
    exact ⟨by simpa using x, y⟩
  | [], _ :: _, h, _, _, _ => h.elim
  | _ :: _, [], h, _, _, _ => h.elim
theorem rep_take {z : Zt} {α : List Addr} {m : Nat} {v : V} {x : Value} (r : Rep z α v x) (h : inV m v) : Rep z (α.take m) v x := by
  cases v with
  | ref j =>
    obtain ⟨a, e, rfl⟩ := r
    have hj : j < m := h
    exact ⟨a, by rw [List.getElem?_take_of_lt hj]; exact e, rfl⟩
  | _ => exact r
theorem all_take {z : Zt} {α : List Addr} {m : Nat} : ∀ {l : List V} {w : List Value}, All2 (Rep z α) l w → (∀ v ∈ l, inV m v) → All2 (Rep z (α.take m)) l w
  | _, _, .nil, _ => .nil
  | _, _, .cons r rs, h => .cons (rep_take r (h _ (.head _))) (all_take rs fun v hv => h v (.tail _ hv))
theorem obj_take {z : Zt} {α : List Addr} {m : Nat} {o : O} {ob : Obj} (r : ObjIs z α o ob) (h : inO m o) : ObjIs z (α.take m) o ob := by
  cases o with
  | list l => obtain ⟨vs, n, e, r⟩ := r; exact ⟨vs, n, e, all_take r h⟩
  | tup l => obtain ⟨vs, n, e, r⟩ := r; exact ⟨vs, n, e, all_take r h⟩
theorem Inv.less {z : Zt} {h₀ h : Heap} {sl : List Slot} {α : List Addr} {σ : Mine.St} {m : Nat} {k : List (Option V)} (I : Inv z h₀ sl α σ h) (hl : Less m σ.v k) (ho : ∀ o ∈ σ.h.take m, inO m o) :
    Inv z h₀ sl (α.take m) { v := k, h := σ.h.take m } h where
  keep := I.keep
  live := I.live
  vars := fun i v e => by
    obtain ⟨e1, hv⟩ := hl.get e
    obtain ⟨s, x, f1, f2, f3⟩ := I.vars i v e1
    exact ⟨s, x, f1, f2, rep_take f3 hv⟩
  objs := fun i o e => by
    have hm := List.mem_of_getElem? e
    have hi : i < m := by
      have := (List.getElem?_eq_some_iff.mp e).1
      rw [List.length_take] at this; omega
    dsimp only at e
    rw [List.getElem?_take_of_lt hi] at e
    obtain ⟨a, ob, f1, f2, f3⟩ := I.objs i o e
    exact ⟨a, ob, by rw [List.getElem?_take_of_lt hi]; exact f1, f2, obj_take f3 (ho o hm)⟩
  len := by simp [I.len]
  apart := I.apart
  nodup := I.nodup.sublist (List.take_sublist _ _)
  sep := fun s hs hm => I.sep s hs (List.mem_of_mem_take hm)
  fresh := fun a ha => I.fresh a (List.mem_of_mem_take ha)
  freshS := I.freshS
section
variable {c : Cx} {A : Around} {sl : List Slot} {en : Env} {σ σ₁ σ₂ : Mine.St} {fl : Fl}
theorem Go.of {t : Sem Flow} {f : Mine.St → Option (Fl × Mine.St)} (h : ExS c A sl t f) (e : f σ = some (fl, σ₁)) : Go c A sl t σ fl σ₁ :=
  fun h₀ α s Q E ok I q => h h₀ α σ s fl σ₁ Q E ok I e fun α' x h' tk _ r I' => q α' x h' tk r I'
theorem Go.cons {x : Stmt} {r : List Stmt} (h : Go c A sl (exec x en) σ .next σ₁) (k : Go c A sl (execs r en) σ₁ fl σ₂) : Go c A sl (execs (x :: r) en) σ fl σ₂ := by
  intro h₀ α s Q E ok I q
  refine wpAny_execs_cons (h h₀ α s _ E ok I fun α₁ x h₁ tk₁ r₁ I₁ => ?_)
  cases r₁
  exact k h₀ α₁ { s with heap := h₁, toks := tk₁ } Q E ok I₁ fun α₂ x h₂ tk₂ r₂ I₂ => q α₂ x h₂ tk₂ r₂ I₂
theorem Go.stop {x : Stmt} {r : List Stmt} {v : V} (h : Go c A sl (exec x en) σ (.ret v) σ₁) : Go c A sl (execs (x :: r) en) σ (.ret v) σ₁ := by
  intro h₀ α s Q E ok I q
  refine wpAny_execs_cons (h h₀ α s _ E ok I fun α₁ x h₁ tk₁ r₁ I₁ => ?_)
  obtain ⟨y, rfl, ry⟩ := r₁
  exact q α₁ _ h₁ tk₁ ⟨y, rfl, ry⟩ I₁
theorem Go.nil : Go c A sl (execs [] en) σ .next σ := fun h₀ α s Q E ok I q => wpAny_execs_nil (q α _ s.heap s.toks rfl I)
noncomputable def flatFl : Fl → Prop
  | .next => True
  | .ret v => flatV v = true
theorem Go.less {t : Sem Flow} (m : Nat) {k : List (Option V)} (h : Go c A sl t σ fl σ₁) (hf : flatFl fl) (hl : Less m σ₁.v k) (ho : ∀ o ∈ σ₁.h.take m, inO m o) : Go c A sl t σ fl { v := k, h := σ₁.h.take m } :=
  fun h₀ α s Q E ok I q => h h₀ α s Q E ok I fun α' x h' tk r I' => q (α'.take m) x h' tk (by
    cases fl with
    | next => exact r
    | ret v => obtain ⟨y, rfl, ry⟩ := r; exact ⟨y, rfl, flat_rep hf ry⟩) (I'.less hl ho)
/-- for x in range(n) -/
theorem Go.forR {x : Str} {px pos : Pos} {iter : Expr} {body : List Stmt} {i n : Nat} {f : Mine.St → Option (Src × Mine.St)} (S : Nat → Mine.St) (hc : A.handled = none) (a : AccS en sl x i) (hi : EvI c A sl (eval iter en) f) (e : f (S 0) = some (.range 0 n 1, S 0))
    (hb : ∀ k, k < n → Go c A sl (execs body en) (setV (S k) i (.int 0 k)) .next (S (k + 1))) (hs : ∀ x, foldedSetIterable iter en x = pure x) :
    Go c A sl (exec (.For (.Name x px) iter body [] pos) en) (S 0) .next (S n) := by
  intro h₀ α s Q E ok I q
  refine wpAny_For (hi _ _ _ _ _ _ _ _ ok I e fun α₁ it h₁ tk₁ p₁ I₁ Sr o1 o2 o3 => ?_) hs
  refine codeAny_forLoop_any (fun m s' => ∃ k α₂ h₂ tk₂, s' = { s with heap := h₂, toks := tk₂ } ∧ k ≤ n ∧ m = n + 1 - k ∧ Inv c.z h₀ sl α₂ (S k) h₂ ∧ SrcAt α₂ h₂ it (.range k (n - k) 1) ∧ it ∉ α₂) ?_ (n + 1)
    ⟨0, α₁, h₁, tk₁, rfl, by omega, by omega, I₁, by simpa using Sr, o1⟩
  rintro m s' ⟨k, α₂, h₂, tk₂, rfl, hk, hm, I₂, S₂, o4⟩
  by_cases hkn : k = n
  · subst hkn
    rw [Nat.sub_self] at S₂
    exact next_end (s := { s with heap := h₂, toks := tk₂ }) hc I₂ S₂ o4 o2 o3 (by rfl) fun h' tk I' => wpAny_execs_nil (q α₂ _ h' tk rfl I')
  · have hlt : k < n := by omega
    have e4 : next (.range k (n - k) 1) (S k) = some (some (.int 0 k, .range ((k + 1 : Nat) : Int) (n - (k + 1)) 1)) := by
      rw [show n - k = (n - (k + 1)) + 1 by omega]
      show some (some (V.int 0 k, Src.range (k + 1) (n - (k + 1)) 1)) = _
      simp
    refine next_item (s := { s with heap := h₂, toks := tk₂ }) hc I₂ S₂ o4 o2 o3 e4 fun y h₃ tk₃ r₃ I₃ S₃ => ?_
    refine wpAny_pure (wpAny_assign_Name ?_)
    obtain ⟨g₀, k1, I₄, k2⟩ := I₃.rebase
    obtain ⟨oI, eI⟩ : ∃ o, h₃.get? it = some o := ⟨_, S₃⟩
    have gI := k2 it oI eI o4 o2
    refine store_acc (s := { s with heap := h₃, toks := tk₃ }) a I₄ r₃ fun h₄ tk₄ I₅ => ?_
    refine hb k hlt g₀ α₂ { s with heap := h₄, toks := tk₄ } _ _ (c.mono _ _ ok k1) I₅ fun α₆ fl h₆ tk₆ r₆ I₆ => ?_
    cases r₆
    refine ⟨n - k, by omega, k + 1, α₆, h₆, tk₆, rfl, by omega, by omega, I₆.back k1, ?_, ?_⟩
    · have : h₆.get? it = some oI := I₆.keep it _ gI
      show IsRangeIter h₆ it _ _ _
      unfold IsRangeIter at *
      rw [this, ← eI]
      exact S₃
    · intro hm'
      have := I₆.fresh it hm'
      rw [gI] at this; cases this
end
end Mine

-- G2
namespace Mine
section
variable {c : Cx} {A : Around} {sl : List Slot} {en : Env} {D : Ad}
noncomputable def dmF (f g : Mine.St → Option (V × Mine.St)) : Mine.St → Option (V × Mine.St) := fun σ =>
  match f σ with
  | some (.int a b, σ₁) => match g σ₁ with
    | some (.int k d, σ₂) => if a = 0 ∧ k = 0 ∧ 0 < d ∧ d < 1000000 ∧ -1000000 < b ∧ b < 1000000000 then some (.ref σ₂.h.length, { σ₂ with h := σ₂.h ++ [.tup [.int 0 (b.fdiv d), .int 0 (b.fmod d)]] }) else none
    | _ => none
  | _ => none
theorem EvE.divmod {p pos : Pos} {x y : Expr} {f g : Mine.St → Option (V × Mine.St)} (hf : Says c A (eval (.Name "divmod" p) en) (.builtin "divmod")) (hx : EvE c A sl (eval x en) f) (hy : EvE c A sl (eval y en) g)
    (hs : starEach [x, y] en = (false, eval x en) :: starEach [y] en := by rfl) (hs2 : starEach [y] en = [(false, eval y en)] := by rfl) :
    EvE c A sl (eval (.Call (.Name "divmod" p) [x, y] [] pos) en) (dmF f g) := by
  intro h₀ α σ s v σ' Q E ok I e q
  unfold dmF at e
  split at e
  · rename_i a b σ₁ e1
    split at e
    · rename_i k d σ₂ e2
      split at e
      · rename_i hb
        obtain ⟨rfl, rfl, h1, h2, h3, h4⟩ := hb
        cases e
        rw [arm_eval_Call_Name']
        refine wpAny_bind (hf _ _ _ _ ok I.keep ?_)
        refine callWith_method1 (rest := [y]) (wpAny_items_cons ?_ hs) hs (by rw [hs2]; rfl)
        refine hx _ _ _ _ _ _ _ _ ok I e1 fun α₁ u h₁ tk₁ p₁ r₁ I₁ => ?_
        refine wpAny_items_cons (rest := []) ?_ hs2
        refine hy _ _ _ _ _ _ _ _ ok I₁ e2 fun α₂ w h₂ tk₂ p₂ r₂ I₂ => wpAny_items_nil ?_
        obtain ⟨t, rfl⟩ := r₁
        obtain ⟨t2, rfl⟩ := r₂
        have e0 : ∀ d : Int, (0 : Int) * c.z.n + d = d := by intro d; simp
        rw [e0, e0]
        refine divmod_int (by omega) ?_ (Or.inl (PyProof.noPylong_small (by omega)))
        refine q (α₂ ++ [_]) _ _ _ ((p₁.trans p₂).trans (List.prefix_append _ _)) ⟨_, ?_, rfl⟩ (I₂.alloc (o := .tup [.int 0 (b.fdiv d), .int 0 (b.fmod d)]) (ob := { cls := .type "tuple", data := .seq #[.int (b.fdiv d) tk₂, .int (b.fmod d) (tk₂ + 1)] })
          ⟨[.int (b.fdiv d) tk₂, .int (b.fmod d) (tk₂ + 1)], 0, rfl, .cons ⟨tk₂, by simp⟩ (.cons ⟨tk₂ + 1, by simp⟩ .nil)⟩ (Heap.get?_push_size _ rfl) fun b o e => Heap.get?_push_of_some _ e)
        rw [← I₂.len]; simp
      · cases e
    · cases e
  · cases e
noncomputable def sliceBF (f : Mine.St → Option (V × Mine.St)) (g : Mine.St → Option ((Option Int × Option Int × Option Int) × Mine.St)) : Mine.St → Option (V × Mine.St) := fun σ =>
  match f σ with
  | some (.bytes l, σ₁) => match g σ₁ with
    | some ((some a, some b, none), σ₂) => if 0 ≤ a ∧ a ≤ b ∧ b ≤ l.length ∧ l.length ≤ 1000 then some (.bytes ((l.drop a.toNat).take (b.toNat - a.toNat)), σ₂) else none
    | _ => none
  | _ => none
theorem clip_in {n : Nat} {a : Int} (h0 : 0 ≤ a) (h1 : a ≤ n) : clipAt n a = a.toNat := by
  obtain ⟨k, rfl⟩ := Int.eq_ofNat_of_zero_le h0
  have := clipAt_nat n k
  rw [show (clipAt n (k : Int)) = min k n from this]
  simp; omega
theorem EvE.sliceB {x lo hi : Expr} {p pos : Pos} {f : Mine.St → Option (V × Mine.St)} {f₁ f₂ f₃ : Mine.St → Option (Option Int × Mine.St)} (hx : EvE c A sl (eval x en) f) (hf : EvP c A sl (evalPart (some lo) en) f₁) (hg : EvP c A sl (evalPart (some hi) en) f₂) (hk : EvP c A sl (evalPart none en) f₃)
    (hs : ∀ o i, subscripted (.Slice (some lo) (some hi) none p) false o i = operate [i, o] (getItem o i)) (ht : ∀ o r, letTemporaryGo x o r = pure ()) :
    EvE c A sl (eval (.Subscript x (.Slice (some lo) (some hi) none p) pos) en) (sliceBF f (parts f₁ f₂ f₃)) := by
  intro h₀ α σ s v σ' Q E ok I e q
  unfold sliceBF at e
  split at e
  · rename_i l σ₁ e1
    split at e
    · rename_i a b σ₂ e2
      split at e
      · rename_i hl
        obtain ⟨h1, h2, h3, h4⟩ := hl
        cases e
        refine Subscript_ (hx _ _ _ _ _ _ _ _ ok I e1 fun α₁ u h₁ tk₁ p₁ r₁ I₁ => ?_)
        refine EvSlice hf hg hk ok I₁ e2 fun α₂ va vb vd h₂ tk₂ p₂ ra rb rd I₂ => ?_
        obtain ⟨t, rfl⟩ := r₁
        have hvd : vd = .none := by cases rd; rfl
        subst hvd
        refine tail_of_ItemOn ⟨"bytes", _, FB.slot_bytes_getitem.lookup, typeIs_bytes _ _ _, getItem_meets (typeIs_bytes _ _ _) (by decide) FB.slot_bytes_getitem FB.entry_bytes_getitem (FB.args_bytes_getitem_2 _ _) (KBc.meets_slice2 l.toArray t _ ra rb)
          ⟨Heap.IsSliceOf.new _ _ _ _, Nat.le_trans (KBc.size_picked_le l.toArray _ _) (by rw [List.size_toArray, sizeLine_eq]; omega), fun t' k => ?_⟩⟩ (hs _ _) (ht _)
        have e3 : KBy.picked l.toArray (some a) (some b) = ((l.drop a.toNat).take (b.toNat - a.toNat)).toArray := by
          rw [KBc.picked_eq]
          show ((l.drop (clipAt l.toArray.size a)).take (clipAt l.toArray.size b - clipAt l.toArray.size a)).toArray = _
          rw [List.size_toArray, clip_in h1 (by omega), clip_in (by omega) h3]
        rw [e3]
        exact q α₂ _ _ k (p₁.trans p₂) ⟨t', rfl⟩ (I₂.keeps fun _ _ e => Heap.get?_push_of_some _ e)
      · cases e
    · cases e
  · cases e
noncomputable def intV : V → Option V
  | .int a b => some (.int a b)
  | _ => none
theorem EvE.intc {p pos : Pos} {x : Expr} {f : Mine.St → Option (V × Mine.St)} (hf : Says c A (eval (.Name "int" p) en) (.type "int")) (hx : EvE c A sl (eval x en) f) (hs : starEach [x] en = [(false, eval x en)] := by rfl) :
    EvE c A sl (eval (.Call (.Name "int" p) [x] [] pos) en) (un f intV) := by
  intro h₀ α σ s v σ' Q E ok I e q
  unfold un at e
  split at e
  · cases e
  · rename_i a σ₁ e1
    split at e
    · cases e
    · rename_i v' e2
      cases e
      rw [arm_eval_Call_Name']
      refine wpAny_bind (hf _ _ _ _ ok I.keep ?_)
      refine callWith_t (r := []) (wpAny_items_cons (hx _ _ _ _ _ _ _ _ ok I e1 fun α₁ u h₁ tk₁ p₁ r₁ I₁ => wpAny_items_nil ?_) hs) hs rfl
      unfold intV at e2
      split at e2
      · cases e2
        obtain ⟨t, rfl⟩ := r₁
        exact call_int_int (q α₁ _ h₁ tk₁ p₁ ⟨t, rfl⟩ I₁)
      · cases e2
noncomputable def bytesV (h : List O) : V → Option V
  | .ref i => match h[i]? with
    | some (.list l) => match intsOf l with
      | some ns => if ns.all (fun n => decide (0 ≤ n ∧ n < 256)) = true ∧ ns.length ≤ 1000 then some (.bytes (ns.map fun n => n.toNat.toUInt8)) else none
      | none => none
    | _ => none
  | _ => none
theorem ints_pairs : ∀ ps : List (Int × Tok), IntsAre (ps.map fun p => Value.int p.1 p.2) (ps.map (·.1))
  | [] => .nil
  | (a, t) :: r => .cons _ _ (ints_pairs r)
theorem EvE.bytesOf {p pos : Pos} {x : Expr} {f : Mine.St → Option (V × Mine.St)} (hh : A.handled = none) (hf : Says c A (eval (.Name "bytes" p) en) (.type "bytes")) (hx : EvE c A sl (eval x en) f) (hs : starEach [x] en = [(false, eval x en)] := by rfl) :
    EvE c A sl (eval (.Call (.Name "bytes" p) [x] [] pos) en) (unH f bytesV) := by
  intro h₀ α σ s v σ' Q E ok I e q
  unfold unH at e
  split at e
  · cases e
  · rename_i a σ₁ e1
    split at e
    · cases e
    · rename_i v' e2
      cases e
      rw [arm_eval_Call_Name']
      refine wpAny_bind (hf _ _ _ _ ok I.keep ?_)
      refine callWith_t (r := []) (wpAny_items_cons (hx _ _ _ _ _ _ _ _ ok I e1 fun α₁ u h₁ tk₁ p₁ r₁ I₁ => wpAny_items_nil ?_) hs) hs rfl
      unfold bytesV at e2
      split at e2
      · split at e2
        · rename_i l e3
          split at e2
          · rename_i ns e4
            split at e2
            · rename_i hn
              cases e2
              obtain ⟨b, vs, n, rfl, _, e5, e6⟩ := I₁.list e3 r₁
              obtain ⟨ps, rfl, e7⟩ := intsOf_items e4 e6
              have hi := ints_pairs ps
              rw [e7] at hi
              refine call_bytes_ints (s := { s with heap := h₁, toks := tk₁ }) (isList_of e5) hi (fun n hm => of_decide_eq_true (List.all_eq_true.mp hn.1 n hm)) ?_ hh fun h' t k hk => ?_
              · have : ps.length = ns.length := by rw [← e7]; simp
                rw [List.length_map, sizeLine_eq]; omega
              · exact q α₁ _ h' k p₁ ⟨t, rfl⟩ (I₁.keeps hk)
            · cases e2
          · cases e2
        · cases e2
      · cases e2
end
end Mine

-- L7
namespace Mine
set_option maxHeartbeats 0
@[irreducible] noncomputable def int2S : { f : St → Option (Fl × St) // ∀ (D : Ad) (c : Cx) (_ : Lw c D) (A : Around) (_ : Room A 0) (L : Addr), ExS c A ((["num", "val", "AP", "mod"] : List Str).map (slotOf (F_int2 D).scope.names L)) (execs B_int2 (callEnvC (F_int2 D) L D.int2)) f } :=
  ⟨_, fun D c w A r L => by
    delta B_int2 Bi_int2
    dsimp only
    with_reducible refine' ExS.cons ?_ ?_
    with_reducible refine' ExS.assign ?_ ?_ ?_
    exact AccS.loc (i := 1) (by kernel_rfl) (by kernel_rfl) (by kernel_rfl)
    with_reducible exact EvE.bytes
    first | with_reducible rfl | kernel_rfl
    with_reducible refine' ExS.cons ?_ ?_
    with_reducible refine' ExS.assign ?_ ?_ ?_
    exact AccS.loc (i := 2) (by kernel_rfl) (by kernel_rfl) (by kernel_rfl)
    with_reducible exact EvE.bytes
    first | with_reducible rfl | kernel_rfl
    with_reducible refine' ExS.cons ?_ ?_
    with_reducible refine' ExS.assign ?_ ?_ ?_
    exact AccS.loc (i := 0) (by kernel_rfl) (by kernel_rfl) (by kernel_rfl)
    with_reducible refine' EvE.intc (Says.bl ‹Lw _ _› ?_ ?_ ?_ ?_ ?_ ?_) ?_ ?_
    rotate_left 1
    first | with_reducible rfl | kernel_rfl
    first | with_reducible rfl | kernel_rfl
    first | with_reducible rfl | kernel_rfl
    first | with_reducible rfl | kernel_rfl
    first | with_reducible rfl | kernel_rfl
    first | with_reducible rfl | kernel_rfl
    with_reducible refine' EvE.call1 (id := "abs") (Says.bl ‹Lw _ _› ?_ ?_ ?_ ?_ ?_ ?_) ?_ OpH.abs ?_
    rotate_left 1
    first | with_reducible rfl | kernel_rfl
    first | with_reducible rfl | kernel_rfl
    first | with_reducible rfl | kernel_rfl
    first | with_reducible rfl | kernel_rfl
    first | with_reducible rfl | kernel_rfl
    first | with_reducible rfl | kernel_rfl
    with_reducible refine' EvE.name ?_ ?_
    exact Acc.loc (i := 0) (by kernel_rfl) (by kernel_rfl) (by kernel_rfl)
    first | with_reducible rfl | kernel_rfl
    first | with_reducible rfl | kernel_rfl
    first | with_reducible rfl | kernel_rfl
    first | with_reducible rfl | kernel_rfl
    with_reducible refine' ExS.cons ?_ ?_
    with_reducible refine' ExS.while_ 100 ?_ ?_
    with_reducible refine' EvB.value ?_ ?_
    with_reducible refine' EvE.name ?_ ?_
    exact Acc.loc (i := 0) (by kernel_rfl) (by kernel_rfl) (by kernel_rfl)
    first | with_reducible rfl | kernel_rfl
    (intros; kernel_rfl)
    with_reducible refine' ExS.cons ?_ ?_
    with_reducible refine' ExS.unpack ‹Room _ _›.calm ?_ ?_ ?_ ?_
    rotate_left 2
    first | exact All2.nil | refine' All2.cons ⟨_, _, rfl, ?_⟩ ?_
    rotate_left 2
    exact AccS.loc (i := 0) (by kernel_rfl) (by kernel_rfl) (by kernel_rfl)
    first | exact All2.nil | refine' All2.cons ⟨_, _, rfl, ?_⟩ ?_
    rotate_left 2
    exact AccS.loc (i := 3) (by kernel_rfl) (by kernel_rfl) (by kernel_rfl)
    first | exact All2.nil | refine' All2.cons ⟨_, _, rfl, ?_⟩ ?_
    with_reducible refine' EvE.divmod (Says.bl ‹Lw _ _› ?_ ?_ ?_ ?_ ?_ ?_) ?_ ?_ ?_ ?_
    rotate_left 2
    first | with_reducible rfl | kernel_rfl
    first | with_reducible rfl | kernel_rfl
    first | with_reducible rfl | kernel_rfl
    first | with_reducible rfl | kernel_rfl
    first | with_reducible rfl | kernel_rfl
    first | with_reducible rfl | kernel_rfl
    with_reducible refine' EvE.name ?_ ?_
    exact Acc.loc (i := 0) (by kernel_rfl) (by kernel_rfl) (by kernel_rfl)
    first | with_reducible rfl | kernel_rfl
    with_reducible exact EvE.int
    first | with_reducible rfl | kernel_rfl
    first | with_reducible rfl | kernel_rfl
    first | with_reducible rfl | kernel_rfl
    first | with_reducible rfl | kernel_rfl
    with_reducible refine' ExS.cons ?_ ?_
    with_reducible refine' ExS.assign ?_ ?_ ?_
    exact AccS.loc (i := 1) (by kernel_rfl) (by kernel_rfl) (by kernel_rfl)
    with_reducible refine' EvE.binop ?_ ?_ Op2.add
    with_reducible refine' EvE.sliceB ?_ ?_ ?_ ?_ ?_ ?_
    with_reducible refine' EvE.name ?_ ?_
    exact Acc.loc (i := 2) (by kernel_rfl) (by kernel_rfl) (by kernel_rfl)
    first | with_reducible rfl | kernel_rfl
    with_reducible refine' EvP.some ?_
    with_reducible refine' EvE.name ?_ ?_
    exact Acc.loc (i := 3) (by kernel_rfl) (by kernel_rfl) (by kernel_rfl)
    first | with_reducible rfl | kernel_rfl
    with_reducible refine' EvP.some ?_
    with_reducible refine' EvE.binop ?_ ?_ Op2.add
    with_reducible refine' EvE.name ?_ ?_
    exact Acc.loc (i := 3) (by kernel_rfl) (by kernel_rfl) (by kernel_rfl)
    first | with_reducible rfl | kernel_rfl
    with_reducible exact EvE.int
    exact EvP.none
    (intros; kernel_rfl)
    (intros; kernel_rfl)
    with_reducible refine' EvE.name ?_ ?_
    exact Acc.loc (i := 1) (by kernel_rfl) (by kernel_rfl) (by kernel_rfl)
    first | with_reducible rfl | kernel_rfl
    first | with_reducible rfl | kernel_rfl
    exact ExS.nil
    with_reducible refine' ExS.cons ?_ ?_
    with_reducible refine' ExS.ret ?_
    with_reducible refine' EvE.name ?_ ?_
    exact Acc.loc (i := 1) (by kernel_rfl) (by kernel_rfl) (by kernel_rfl)
    first | with_reducible rfl | kernel_rfl
    exact ExS.nil⟩
theorem EvE.int2 {c : Cx} {A : Around} {sl : List Slot} {en : Env} {D : Ad} {k : Nat} {p pos : Pos} {e : Expr} {es : List Expr} {g : St → Option (List V × St)} (w : Lw c D) (r : Room A (k + 1)) (hk : en.scope.kind = .function) (hx : en.kindOf "Int2AP" = some .globalImplicit) (hg : en.globals = mainGlobals)
    (hl : EvL c A sl (spliced (backTo pos (starEach (e :: es) en))) g) (hs : starEach (e :: es) en = (false, eval e en) :: starEach es en) : EvE c A sl (eval (.Call (.Name "Int2AP" p) (e :: es) [] pos) en) (callsF (["num", "val", "AP", "mod"] : List Str).length (["num"] : List Str).length (int2S.1) g) := by
  with_reducible refine EvE.callN (Says.gl w ?_ hk hx hg ?_) w.int2 (form_int2 D) r.go (fun L => int2S.2 D c w _ ((r.mono (by omega)).deep _) L) hl hs
  · kernel_rfl
  · kernel_rfl
end Mine

-- G3
namespace Mine
/-- the letter j is a list of the ints ns that stays -/
structure ScriptAt (c : Cx) (j : Nat) (ns : List Int) : Prop where
  at_ : ∃ a, c.z.t j = .ref a ∧ ∀ h, c.ok h → ∃ vs, h.IsList a vs.toArray ∧ IntsAre vs ns
noncomputable def sliceOF (ns : List Int) (f : Mine.St → Option (V × Mine.St)) (g : Mine.St → Option ((Option Int × Option Int × Option Int) × Mine.St)) : Mine.St → Option (V × Mine.St) := fun σ =>
  match f σ with
  | some (.opq 0, σ₁) => match g σ₁ with
    | some ((a, b, d), σ₂) => if d = some 0 then none else if ns.length ≤ 100000 then some (.ref σ₂.h.length, { σ₂ with h := σ₂.h ++ [.list (pickV (ns.map (V.int 0 ·)) a b d)] }) else none
    | none => none
  | _ => none
theorem ints_all2 {z : Zt} {α : List Addr} : ∀ {vs : List Value} {ns : List Int}, IntsAre vs ns → All2 (Rep z α) (ns.map (V.int 0 ·)) vs
  | _, _, .nil => .nil
  | _, _, .cons n t r => .cons ⟨t, by simp⟩ (ints_all2 r)
section
variable {c : Cx} {A : Around} {sl : List Slot} {en : Env} {D : Ad} {ns : List Int}
theorem EvE.sliceO {x : Expr} {lo hi st : Option Expr} {p pos : Pos} {f : Mine.St → Option (V × Mine.St)} {f₁ f₂ f₃ : Mine.St → Option (Option Int × Mine.St)} (S : ScriptAt c 0 ns) (hx : EvE c A sl (eval x en) f) (hf : EvP c A sl (evalPart lo en) f₁) (hg : EvP c A sl (evalPart hi en) f₂) (hk : EvP c A sl (evalPart st en) f₃)
    (hs : ∃ sw : Bool, ∀ o i, subscripted (.Slice lo hi st p) false o i = operate (if sw then [i, o] else [o, i]) (getItem o i)) (ht : ∀ o r, letTemporaryGo x o r = pure ()) :
    EvE c A sl (eval (.Subscript x (.Slice lo hi st p) pos) en) (sliceOF ns f (parts f₁ f₂ f₃)) := by
  intro h₀ α σ s v σ' Q E ok I e q
  unfold sliceOF at e
  split at e
  · rename_i σ₁ e1
    split at e
    · rename_i a b d σ₂ e2
      split at e
      · cases e
      · rename_i hd
        split at e
        · rename_i hl
          cases e
          refine Subscript_ (hx _ _ _ _ _ _ _ _ ok I e1 fun α₁ x h₁ tk₁ p₁ r₁ I₁ => ?_)
          refine EvSlice hf hg hk ok I₁ e2 fun α₂ va vb vd h₂ tk₂ p₂ ra rb rd I₂ => ?_
          obtain ⟨ad, e3, S⟩ := S.at_
          obtain ⟨vs, hL, hI⟩ := S _ ok
          have hx : x = .ref ad := r₁.trans e3
          subst hx
          have hL' : (h₂.push { cls := .type "slice", data := .fields #[va, vb, vd] }).IsList ad vs.toArray := by
            obtain ⟨o, ho, r⟩ := hL
            exact ⟨o, Heap.get?_push_of_some _ (I₂.keep _ _ ho), r⟩
          have hlen : vs.length = ns.length := hI.length
          obtain ⟨sw, hs⟩ := hs
          refine tail_of_ItemOn ⟨"list", _, slot_list_getitem.lookup, hL'.typeIs, ?_⟩ (hs _ _) (ht _)
          refine wpAny_getItem_list_slice hL' (Heap.IsSliceOf.new ..) ra rb rd hd ?_ (by simp only [List.size_toArray, sizeLine_eq, hlen]; omega)
          have I₃ := I₂.keeps (h' := h₂.push { cls := .type "slice", data := .fields #[va, vb, vd] }) fun _ _ e => Heap.get?_push_of_some _ e
          refine q (α₂ ++ [_]) _ _ tk₂ ((p₁.trans p₂).trans (List.prefix_append _ _)) ⟨_, ?_, rfl⟩ (I₃.alloc (ob := { cls := .type "list", data := .seq (slicePick vs.toArray a b d) }) ⟨(slicePick vs.toArray a b d).toList, 0, by simp, ?_⟩ (Heap.get?_push_size _ rfl) fun b o e => Heap.get?_push_of_some _ e)
          · rw [← I₂.len]; simp
          · unfold slicePick pickV
            rw [List.size_toArray, List.length_map, hlen]
            simp only [List.getElem?_toArray]
            exact pick_all (ints_all2 hI) _
        · cases e
    · cases e
  · cases e
theorem EvE.and3 {x y z : Expr} {pos : Pos} {f g k : Mine.St → Option (V × Mine.St)} (hx : EvE c A sl (eval x en) f) (hy : EvE c A sl (eval y en) g) (hz : EvE c A sl (eval z en) k) : EvE c A sl (eval (.BoolOp .And [x, y, z] pos) en) (andV f (andV g k)) := by
  intro h₀ α σ s v σ' Q E ok I e q
  have h2 := EvE.and (pos := pos) hy hz
  unfold andV at e
  split at e
  · cases e
  · rename_i a σ₁ e1
    refine BoolOp_and (hx _ _ _ _ _ _ _ _ ok I e1 fun α₁ w h₁ tk₁ p₁ r₁ I₁ => ?_)
    split at e
    · cases e
    · rename_i e2
      refine truth_of r₁ e2 ?_
      try rw [if_pos rfl]
      exact h2 _ _ _ _ _ _ _ _ ok I₁ e fun α₂ w h₂ tk₂ p₂ r₂ I₂ => q α₂ w h₂ tk₂ (p₁.trans p₂) r₂ I₂
    · rename_i e2
      cases e
      refine truth_of r₁ e2 ?_
      try rw [if_neg (by simp)]
      exact q α₁ w h₁ tk₁ p₁ r₁ I₁
end
-- the statements of the law
noncomputable def forB : Stmt → List Stmt
  | .For _ _ b _ _ => b
  | _ => []
noncomputable def Li0 : { s : Stmt // nthS B_law 0 = s } := by refine ⟨?a, ?b⟩; case b => conv => lhs; whnf
noncomputable def Li1 : { s : Stmt // nthS B_law 1 = s } := by refine ⟨?a, ?b⟩; case b => conv => lhs; whnf
noncomputable def Li3 : { s : Stmt // nthS B_law 3 = s } := by refine ⟨?a, ?b⟩; case b => conv => lhs; whnf
noncomputable def Li4 : { s : Stmt // nthS B_law 4 = s } := by refine ⟨?a, ?b⟩; case b => conv => lhs; whnf
noncomputable def Li5 : { s : Stmt // nthS B_law 5 = s } := by refine ⟨?a, ?b⟩; case b => conv => lhs; whnf
noncomputable def Li6 : { s : Stmt // nthS B_law 6 = s } := by refine ⟨?a, ?b⟩; case b => conv => lhs; whnf
noncomputable def Li7 : { s : Stmt // nthS B_law 7 = s } := by refine ⟨?a, ?b⟩; case b => conv => lhs; whnf
noncomputable def Li8 : { s : Stmt // nthS B_law 8 = s } := by refine ⟨?a, ?b⟩; case b => conv => lhs; whnf
noncomputable def Li9 : { s : Stmt // nthS B_law 9 = s } := by refine ⟨?a, ?b⟩; case b => conv => lhs; whnf
noncomputable def Li10 : { s : Stmt // nthS B_law 10 = s } := by refine ⟨?a, ?b⟩; case b => conv => lhs; whnf
noncomputable def Li11 : { s : Stmt // nthS B_law 11 = s } := by refine ⟨?a, ?b⟩; case b => conv => lhs; whnf
noncomputable def Li12 : { s : Stmt // nthS B_law 12 = s } := by refine ⟨?a, ?b⟩; case b => conv => lhs; whnf
noncomputable def Tc : { s : Stmt // nthS (forB (nthS B_law 2)) 0 = s } := by refine ⟨?a, ?b⟩; case b => conv => lhs; whnf
noncomputable def Ta : { s : Stmt // nthS (forB (nthS B_law 2)) 8 = s } := by refine ⟨?a, ?b⟩; case b => conv => lhs; whnf
noncomputable def midOf : List Stmt → List Stmt
  | [_, a, b, c, d, e, f, g, _] => [a, b, c, d, e, f, g]
  | _ => []
noncomputable def Tm : { s : List Stmt // midOf (forB (nthS B_law 2)) = s } := by refine ⟨?a, ?b⟩; case b => conv => lhs; whnf
theorem law_list : B_law = [nthS B_law 0, nthS B_law 1, nthS B_law 2, nthS B_law 3, nthS B_law 4, nthS B_law 5, nthS B_law 6, nthS B_law 7, nthS B_law 8, nthS B_law 9, nthS B_law 10, nthS B_law 11, nthS B_law 12] := by kernel_rfl
theorem turn_list : forB (nthS B_law 2) = Tc.1 :: (Tm.1 ++ [Ta.1]) := by kernel_rfl
end Mine

-- G4
namespace Mine
set_option maxHeartbeats 0
noncomputable abbrev lawSl (D : Ad) (L : Addr) : List Slot := (["script", "own", "read", "which", "cell", "mail", "k", "sizes", "last", "sign", "prepared", "places", "first", "second", "third", "numbers", "word", "left", "good", "well", "others", "ahead", "behind"] : List Str).map (slotOf (F_law D).scope.names L)
noncomputable abbrev lawEn (D : Ad) (L : Addr) : Env := callEnvC (F_law D) L D.law
@[irreducible] noncomputable def l0S : { f : St → Option (Fl × St) // ∀ (D : Ad) (c : Cx) (_ : Lw c D) (A : Around) (_ : Room A 3) (L : Addr), ExS c A (lawSl D L) (exec Li0.1 (lawEn D L)) f } :=
  ⟨_, fun D c w A r L => by
    delta Li0 lawSl lawEn
    dsimp only
    with_reducible refine' ExS.assign ?_ ?_ ?_
    exact AccS.loc (i := 1) (by kernel_rfl) (by kernel_rfl) (by kernel_rfl)
    with_reducible refine' EvE.list ?_
    with_reducible refine' EvL.cons ?_ ?_ ?_
    with_reducible exact EvE.int
    with_reducible refine' EvL.cons ?_ ?_ ?_
    with_reducible exact EvE.int
    with_reducible refine' EvL.cons ?_ ?_ ?_
    with_reducible exact EvE.int
    exact EvL.nil
    first | with_reducible rfl | kernel_rfl
    first | with_reducible rfl | kernel_rfl
    first | with_reducible rfl | kernel_rfl
    first | with_reducible rfl | kernel_rfl⟩
@[irreducible] noncomputable def l1S : { f : St → Option (Fl × St) // ∀ (D : Ad) (c : Cx) (_ : Lw c D) (A : Around) (_ : Room A 3) (L : Addr), ExS c A (lawSl D L) (exec Li1.1 (lawEn D L)) f } :=
  ⟨_, fun D c w A r L => by
    delta Li1 lawSl lawEn
    dsimp only
    with_reducible refine' ExS.assign ?_ ?_ ?_
    exact AccS.loc (i := 2) (by kernel_rfl) (by kernel_rfl) (by kernel_rfl)
    with_reducible refine' EvE.list ?_
    exact EvL.nil
    first | with_reducible rfl | kernel_rfl⟩
@[irreducible] noncomputable def l3S : { f : St → Option (Fl × St) // ∀ (D : Ad) (c : Cx) (_ : Lw c D) (A : Around) (_ : Room A 3) (L : Addr), ExS c A (lawSl D L) (exec Li3.1 (lawEn D L)) f } :=
  ⟨_, fun D c w A r L => by
    delta Li3 lawSl lawEn
    dsimp only
    with_reducible refine' ExS.unpack ‹Room _ _›.calm ?_ ?_ ?_ ?_
    rotate_left 2
    first | exact All2.nil | refine' All2.cons ⟨_, _, rfl, ?_⟩ ?_
    rotate_left 2
    exact AccS.loc (i := 12) (by kernel_rfl) (by kernel_rfl) (by kernel_rfl)
    first | exact All2.nil | refine' All2.cons ⟨_, _, rfl, ?_⟩ ?_
    rotate_left 2
    exact AccS.cel (i := 13) (by kernel_rfl) (by kernel_rfl) (by kernel_rfl) (by kernel_rfl)
    first | exact All2.nil | refine' All2.cons ⟨_, _, rfl, ?_⟩ ?_
    rotate_left 2
    exact AccS.cel (i := 14) (by kernel_rfl) (by kernel_rfl) (by kernel_rfl) (by kernel_rfl)
    first | exact All2.nil | refine' All2.cons ⟨_, _, rfl, ?_⟩ ?_
    with_reducible refine' EvE.name ?_ ?_
    exact Acc.loc (i := 2) (by kernel_rfl) (by kernel_rfl) (by kernel_rfl)
    first | with_reducible rfl | kernel_rfl
    first | with_reducible rfl | kernel_rfl
    first | with_reducible rfl | kernel_rfl⟩
@[irreducible] noncomputable def l4S : { f : St → Option (Fl × St) // ∀ (D : Ad) (c : Cx) (_ : Lw c D) (A : Around) (_ : Room A 3) (L : Addr), ExS c A (lawSl D L) (exec Li4.1 (lawEn D L)) f } :=
  ⟨_, fun D c w A r L => by
    delta Li4 lawSl lawEn
    dsimp only
    with_reducible refine' ExS.assign ?_ ?_ ?_
    exact AccS.cel (i := 15) (by kernel_rfl) (by kernel_rfl) (by kernel_rfl) (by kernel_rfl)
    with_reducible refine' Mine.EvE.fib (k := 0) ‹Lw _ _› (Room.mono ‹Room _ _› (by decide)) ?_ ?_ ?_
    first | with_reducible rfl | kernel_rfl
    first | with_reducible rfl | kernel_rfl
    first | with_reducible rfl | kernel_rfl
    first | with_reducible rfl | kernel_rfl⟩
@[irreducible] noncomputable def l5S : { f : St → Option (Fl × St) // ∀ (D : Ad) (c : Cx) (_ : Lw c D) (A : Around) (_ : Room A 3) (L : Addr), ExS c A (lawSl D L) (exec Li5.1 (lawEn D L)) f } :=
  ⟨_, fun D c w A r L => by
    delta Li5 lawSl lawEn
    dsimp only
    with_reducible refine' ExS.assign ?_ ?_ ?_
    exact AccS.loc (i := 16) (by kernel_rfl) (by kernel_rfl) (by kernel_rfl)
    with_reducible exact EvE.bytes
    first | with_reducible rfl | kernel_rfl⟩
@[irreducible] noncomputable def l6S : { f : St → Option (Fl × St) // ∀ (D : Ad) (c : Cx) (_ : Lw c D) (A : Around) (_ : Room A 3) (L : Addr), ExS c A (lawSl D L) (exec Li6.1 (lawEn D L)) f } :=
  ⟨_, fun D c w A r L => by
    delta Li6 lawSl lawEn
    dsimp only
    with_reducible refine' ExS.assign ?_ ?_ ?_
    exact AccS.loc (i := 17) (by kernel_rfl) (by kernel_rfl) (by kernel_rfl)
    with_reducible refine' EvE.call1 (id := "sum") (Says.bl ‹Lw _ _› ?_ ?_ ?_ ?_ ?_ ?_) ?_ (OpH.sum ‹Room _ _›.calm) ?_
    rotate_left 1
    first | with_reducible rfl | kernel_rfl
    first | with_reducible rfl | kernel_rfl
    first | with_reducible rfl | kernel_rfl
    first | with_reducible rfl | kernel_rfl
    first | with_reducible rfl | kernel_rfl
    first | with_reducible rfl | kernel_rfl
    with_reducible refine' EvE.comp (xs := (["i", "j", "k"] : List Str)) 23 ?_ ?_ ?_ ?_ ?_
    rotate_left 1
    first | with_reducible rfl | kernel_rfl
    exact ⟨by rfl, by decide +kernel, by rfl, by decide +kernel, by decide +kernel, ⟨_, List.Mem.head _⟩⟩
    with_reducible refine' EvI.value ?_
    with_reducible refine' EvE.name ?_ ?_
    exact Acc.loc (i := 12) (by kernel_rfl) (by kernel_rfl) (by kernel_rfl)
    first | with_reducible rfl | kernel_rfl
    intro C
    with_reducible refine' LoopJ.l2a ‹Room _ _›.calm ?_ ?_ ?_ ?_
    rotate_left 3
    exact AccS.loc (i := 23) (by kernel_rfl) (by kernel_rfl) (by kernel_rfl)
    with_reducible refine' EvI.value ?_
    with_reducible refine' EvE.name ?_ ?_
    exact Acc.cel (i := 13) (by kernel_rfl) (by kernel_rfl) (by kernel_rfl) (by kernel_rfl)
    first | with_reducible rfl | kernel_rfl
    with_reducible refine' LoopJ.l3b ‹Room _ _›.calm ?_ ?_ ?_ ?_
    rotate_left 3
    exact AccS.loc (i := 24) (by kernel_rfl) (by kernel_rfl) (by kernel_rfl)
    with_reducible refine' EvI.value ?_
    with_reducible refine' EvE.name ?_ ?_
    exact Acc.cel (i := 14) (by kernel_rfl) (by kernel_rfl) (by kernel_rfl) (by kernel_rfl)
    first | with_reducible rfl | kernel_rfl
    with_reducible refine' LoopJ.l3c ‹Room _ _›.calm ?_ ?_
    rotate_left 2
    exact AccS.loc (i := 25) (by kernel_rfl) (by kernel_rfl) (by kernel_rfl)
    with_reducible refine' EvE.item ?_ ?_ ?_ ?_
    with_reducible refine' EvE.name ?_ ?_
    exact Acc.cel (i := 15) (by kernel_rfl) (by kernel_rfl) (by kernel_rfl) (by kernel_rfl)
    first | with_reducible rfl | kernel_rfl
    with_reducible refine' EvE.binop ?_ ?_ Op2.add
    with_reducible refine' EvE.binop ?_ ?_ Op2.add
    with_reducible refine' EvE.name ?_ ?_
    exact Acc.loc (i := 23) (by kernel_rfl) (by kernel_rfl) (by kernel_rfl)
    first | with_reducible rfl | kernel_rfl
    with_reducible refine' EvE.name ?_ ?_
    exact Acc.loc (i := 24) (by kernel_rfl) (by kernel_rfl) (by kernel_rfl)
    first | with_reducible rfl | kernel_rfl
    with_reducible refine' EvE.name ?_ ?_
    exact Acc.loc (i := 25) (by kernel_rfl) (by kernel_rfl) (by kernel_rfl)
    first | with_reducible rfl | kernel_rfl
    (intros; kernel_rfl)
    (intros; kernel_rfl)
    (intros; kernel_rfl)
    (intros; kernel_rfl)
    (intros; kernel_rfl)
    first | with_reducible rfl | kernel_rfl
    first | with_reducible rfl | kernel_rfl⟩
@[irreducible] noncomputable def l7S : { f : St → Option (Fl × St) // ∀ (D : Ad) (c : Cx) (_ : Lw c D) (A : Around) (_ : Room A 3) (L : Addr), ExS c A (lawSl D L) (exec Li7.1 (lawEn D L)) f } :=
  ⟨_, fun D c w A r L => by
    delta Li7 lawSl lawEn
    dsimp only
    with_reducible refine' ExS.while_ 100 ?_ ?_
    with_reducible refine' EvB.cmp ?_ ?_ Op2.gt ?_
    with_reducible refine' EvE.name ?_ ?_
    exact Acc.loc (i := 17) (by kernel_rfl) (by kernel_rfl) (by kernel_rfl)
    first | with_reducible rfl | kernel_rfl
    with_reducible exact EvE.int
    first | with_reducible rfl | kernel_rfl
    with_reducible refine' ExS.cons ?_ ?_
    with_reducible refine' ExS.assign ?_ ?_ ?_
    exact AccS.loc (i := 16) (by kernel_rfl) (by kernel_rfl) (by kernel_rfl)
    with_reducible refine' EvE.binop ?_ ?_ Op2.add
    with_reducible refine' EvE.bytesOf ‹Room _ _›.calm (Says.bl ‹Lw _ _› ?_ ?_ ?_ ?_ ?_ ?_) ?_ ?_
    rotate_left 1
    first | with_reducible rfl | kernel_rfl
    first | with_reducible rfl | kernel_rfl
    first | with_reducible rfl | kernel_rfl
    first | with_reducible rfl | kernel_rfl
    first | with_reducible rfl | kernel_rfl
    first | with_reducible rfl | kernel_rfl
    with_reducible refine' EvE.list ?_
    with_reducible refine' EvL.cons ?_ ?_ ?_
    with_reducible refine' EvE.binop ?_ ?_ Op2.add
    with_reducible exact EvE.int
    with_reducible refine' EvE.binop ?_ ?_ Op2.mod
    with_reducible refine' EvE.name ?_ ?_
    exact Acc.loc (i := 17) (by kernel_rfl) (by kernel_rfl) (by kernel_rfl)
    first | with_reducible rfl | kernel_rfl
    with_reducible exact EvE.int
    exact EvL.nil
    first | with_reducible rfl | kernel_rfl
    first | with_reducible rfl | kernel_rfl
    with_reducible refine' EvE.name ?_ ?_
    exact Acc.loc (i := 16) (by kernel_rfl) (by kernel_rfl) (by kernel_rfl)
    first | with_reducible rfl | kernel_rfl
    first | with_reducible rfl | kernel_rfl
    with_reducible refine' ExS.cons ?_ ?_
    with_reducible refine' ExS.aug ?_ ?_ Op2.idiv
    exact AccS.loc (i := 17) (by kernel_rfl) (by kernel_rfl) (by kernel_rfl)
    with_reducible exact EvE.int
    exact ExS.nil⟩
@[irreducible] noncomputable def l8S : { f : St → Option (Fl × St) // ∀ (D : Ad) (c : Cx) (_ : Lw c D) (A : Around) (_ : Room A 3) (L : Addr), ExS c A (lawSl D L) (exec Li8.1 (lawEn D L)) f } :=
  ⟨_, fun D c w A r L => by
    delta Li8 lawSl lawEn
    dsimp only
    with_reducible refine' ExS.unpack ‹Room _ _›.calm ?_ ?_ ?_ ?_
    rotate_left 2
    first | exact All2.nil | refine' All2.cons ⟨_, _, rfl, ?_⟩ ?_
    rotate_left 2
    exact AccS.loc (i := 18) (by kernel_rfl) (by kernel_rfl) (by kernel_rfl)
    first | exact All2.nil | refine' All2.cons ⟨_, _, rfl, ?_⟩ ?_
    rotate_left 2
    exact AccS.loc (i := 11) (by kernel_rfl) (by kernel_rfl) (by kernel_rfl)
    first | exact All2.nil | refine' All2.cons ⟨_, _, rfl, ?_⟩ ?_
    with_reducible refine' Mine.EvE.product (k := 0) ‹Lw _ _› (Room.mono ‹Room _ _› (by decide)) ?_ ?_ ?_ ?_ ?_
    rotate_left 1
    first | with_reducible rfl | kernel_rfl
    first | with_reducible rfl | kernel_rfl
    first | with_reducible rfl | kernel_rfl
    with_reducible refine' EvL.cons ?_ ?_ ?_
    with_reducible refine' EvE.name ?_ ?_
    exact Acc.cel (i := 15) (by kernel_rfl) (by kernel_rfl) (by kernel_rfl) (by kernel_rfl)
    first | with_reducible rfl | kernel_rfl
    with_reducible refine' EvL.cons ?_ ?_ ?_
    with_reducible refine' EvE.name ?_ ?_
    exact Acc.loc (i := 12) (by kernel_rfl) (by kernel_rfl) (by kernel_rfl)
    first | with_reducible rfl | kernel_rfl
    with_reducible refine' EvL.cons ?_ ?_ ?_
    with_reducible refine' EvE.name ?_ ?_
    exact Acc.cel (i := 13) (by kernel_rfl) (by kernel_rfl) (by kernel_rfl) (by kernel_rfl)
    first | with_reducible rfl | kernel_rfl
    exact EvL.nil
    first | with_reducible rfl | kernel_rfl
    first | with_reducible rfl | kernel_rfl
    first | with_reducible rfl | kernel_rfl
    first | with_reducible rfl | kernel_rfl
    first | with_reducible rfl | kernel_rfl
    first | with_reducible rfl | kernel_rfl⟩
@[irreducible] noncomputable def l9S : { f : St → Option (Fl × St) // ∀ (D : Ad) (c : Cx) (_ : Lw c D) (A : Around) (_ : Room A 3) (L : Addr), ExS c A (lawSl D L) (exec Li9.1 (lawEn D L)) f } :=
  ⟨_, fun D c w A r L => by
    delta Li9 lawSl lawEn
    dsimp only
    with_reducible refine' ExS.unpack ‹Room _ _›.calm ?_ ?_ ?_ ?_
    rotate_left 2
    first | exact All2.nil | refine' All2.cons ⟨_, _, rfl, ?_⟩ ?_
    rotate_left 2
    exact AccS.loc (i := 19) (by kernel_rfl) (by kernel_rfl) (by kernel_rfl)
    first | exact All2.nil | refine' All2.cons ⟨_, _, rfl, ?_⟩ ?_
    rotate_left 2
    exact AccS.cel (i := 20) (by kernel_rfl) (by kernel_rfl) (by kernel_rfl) (by kernel_rfl)
    first | exact All2.nil | refine' All2.cons ⟨_, _, rfl, ?_⟩ ?_
    with_reducible refine' Mine.EvE.product (k := 0) ‹Lw _ _› (Room.mono ‹Room _ _› (by decide)) ?_ ?_ ?_ ?_ ?_
    rotate_left 1
    first | with_reducible rfl | kernel_rfl
    first | with_reducible rfl | kernel_rfl
    first | with_reducible rfl | kernel_rfl
    with_reducible refine' EvL.cons ?_ ?_ ?_
    with_reducible refine' EvE.name ?_ ?_
    exact Acc.cel (i := 15) (by kernel_rfl) (by kernel_rfl) (by kernel_rfl) (by kernel_rfl)
    first | with_reducible rfl | kernel_rfl
    with_reducible refine' EvL.cons ?_ ?_ ?_
    with_reducible refine' EvE.name ?_ ?_
    exact Acc.cel (i := 13) (by kernel_rfl) (by kernel_rfl) (by kernel_rfl) (by kernel_rfl)
    first | with_reducible rfl | kernel_rfl
    with_reducible refine' EvL.cons ?_ ?_ ?_
    with_reducible refine' EvE.name ?_ ?_
    exact Acc.cel (i := 14) (by kernel_rfl) (by kernel_rfl) (by kernel_rfl) (by kernel_rfl)
    first | with_reducible rfl | kernel_rfl
    exact EvL.nil
    first | with_reducible rfl | kernel_rfl
    first | with_reducible rfl | kernel_rfl
    first | with_reducible rfl | kernel_rfl
    first | with_reducible rfl | kernel_rfl
    first | with_reducible rfl | kernel_rfl
    first | with_reducible rfl | kernel_rfl⟩
@[irreducible] noncomputable def l10S : { f : St → Option (Fl × St) // ∀ (D : Ad) (c : Cx) (_ : Lw c D) (A : Around) (_ : Room A 3) (L : Addr), ExS c A (lawSl D L) (exec Li10.1 (lawEn D L)) f } :=
  ⟨_, fun D c w A r L => by
    delta Li10 lawSl lawEn
    dsimp only
    with_reducible refine' ExS.assign ?_ ?_ ?_
    exact AccS.loc (i := 21) (by kernel_rfl) (by kernel_rfl) (by kernel_rfl)
    with_reducible refine' EvE.call1 (id := "sum") (Says.bl ‹Lw _ _› ?_ ?_ ?_ ?_ ?_ ?_) ?_ (OpH.sum ‹Room _ _›.calm) ?_
    rotate_left 1
    first | with_reducible rfl | kernel_rfl
    first | with_reducible rfl | kernel_rfl
    first | with_reducible rfl | kernel_rfl
    first | with_reducible rfl | kernel_rfl
    first | with_reducible rfl | kernel_rfl
    first | with_reducible rfl | kernel_rfl
    with_reducible refine' EvE.comp (xs := (["i", "j"] : List Str)) 23 ?_ ?_ ?_ ?_ ?_
    rotate_left 1
    first | with_reducible rfl | kernel_rfl
    exact ⟨by rfl, by decide +kernel, by rfl, by decide +kernel, by decide +kernel, ⟨_, List.Mem.head _⟩⟩
    with_reducible refine' EvI.value ?_
    with_reducible refine' EvE.name ?_ ?_
    exact Acc.loc (i := 11) (by kernel_rfl) (by kernel_rfl) (by kernel_rfl)
    first | with_reducible rfl | kernel_rfl
    intro C
    with_reducible refine' LoopJ.l2a ‹Room _ _›.calm ?_ ?_ ?_ ?_
    rotate_left 3
    exact AccS.loc (i := 23) (by kernel_rfl) (by kernel_rfl) (by kernel_rfl)
    with_reducible refine' EvI.value ?_
    with_reducible refine' EvE.name ?_ ?_
    exact Acc.cel (i := 14) (by kernel_rfl) (by kernel_rfl) (by kernel_rfl) (by kernel_rfl)
    first | with_reducible rfl | kernel_rfl
    with_reducible refine' LoopJ.l2b ‹Room _ _›.calm ?_ ?_
    rotate_left 2
    exact AccS.loc (i := 24) (by kernel_rfl) (by kernel_rfl) (by kernel_rfl)
    with_reducible refine' EvE.item ?_ ?_ ?_ ?_
    with_reducible refine' EvE.name ?_ ?_
    exact Acc.cel (i := 15) (by kernel_rfl) (by kernel_rfl) (by kernel_rfl) (by kernel_rfl)
    first | with_reducible rfl | kernel_rfl
    with_reducible refine' EvE.binop ?_ ?_ Op2.add
    with_reducible refine' EvE.name ?_ ?_
    exact Acc.loc (i := 23) (by kernel_rfl) (by kernel_rfl) (by kernel_rfl)
    first | with_reducible rfl | kernel_rfl
    with_reducible refine' EvE.name ?_ ?_
    exact Acc.loc (i := 24) (by kernel_rfl) (by kernel_rfl) (by kernel_rfl)
    first | with_reducible rfl | kernel_rfl
    (intros; kernel_rfl)
    (intros; kernel_rfl)
    (intros; kernel_rfl)
    (intros; kernel_rfl)
    first | with_reducible rfl | kernel_rfl
    first | with_reducible rfl | kernel_rfl⟩
@[irreducible] noncomputable def l11S : { f : St → Option (Fl × St) // ∀ (D : Ad) (c : Cx) (_ : Lw c D) (A : Around) (_ : Room A 3) (L : Addr), ExS c A (lawSl D L) (exec Li11.1 (lawEn D L)) f } :=
  ⟨_, fun D c w A r L => by
    delta Li11 lawSl lawEn
    dsimp only
    with_reducible refine' ExS.assign ?_ ?_ ?_
    exact AccS.loc (i := 22) (by kernel_rfl) (by kernel_rfl) (by kernel_rfl)
    with_reducible refine' EvE.call1 (id := "sum") (Says.bl ‹Lw _ _› ?_ ?_ ?_ ?_ ?_ ?_) ?_ (OpH.sum ‹Room _ _›.calm) ?_
    rotate_left 1
    first | with_reducible rfl | kernel_rfl
    first | with_reducible rfl | kernel_rfl
    first | with_reducible rfl | kernel_rfl
    first | with_reducible rfl | kernel_rfl
    first | with_reducible rfl | kernel_rfl
    first | with_reducible rfl | kernel_rfl
    with_reducible refine' EvE.comp (xs := (["i", "j"] : List Str)) 23 ?_ ?_ ?_ ?_ ?_
    rotate_left 1
    first | with_reducible rfl | kernel_rfl
    exact ⟨by rfl, by decide +kernel, by rfl, by decide +kernel, by decide +kernel, ⟨_, List.Mem.head _⟩⟩
    with_reducible refine' EvI.value ?_
    with_reducible refine' EvE.name ?_ ?_
    exact Acc.loc (i := 12) (by kernel_rfl) (by kernel_rfl) (by kernel_rfl)
    first | with_reducible rfl | kernel_rfl
    intro C
    with_reducible refine' LoopJ.l2a ‹Room _ _›.calm ?_ ?_ ?_ ?_
    rotate_left 3
    exact AccS.loc (i := 23) (by kernel_rfl) (by kernel_rfl) (by kernel_rfl)
    with_reducible refine' EvI.value ?_
    with_reducible refine' EvE.name ?_ ?_
    exact Acc.cel (i := 20) (by kernel_rfl) (by kernel_rfl) (by kernel_rfl) (by kernel_rfl)
    first | with_reducible rfl | kernel_rfl
    with_reducible refine' LoopJ.l2b ‹Room _ _›.calm ?_ ?_
    rotate_left 2
    exact AccS.loc (i := 24) (by kernel_rfl) (by kernel_rfl) (by kernel_rfl)
    with_reducible refine' EvE.item ?_ ?_ ?_ ?_
    with_reducible refine' EvE.name ?_ ?_
    exact Acc.cel (i := 15) (by kernel_rfl) (by kernel_rfl) (by kernel_rfl) (by kernel_rfl)
    first | with_reducible rfl | kernel_rfl
    with_reducible refine' EvE.binop ?_ ?_ Op2.add
    with_reducible refine' EvE.name ?_ ?_
    exact Acc.loc (i := 23) (by kernel_rfl) (by kernel_rfl) (by kernel_rfl)
    first | with_reducible rfl | kernel_rfl
    with_reducible refine' EvE.name ?_ ?_
    exact Acc.loc (i := 24) (by kernel_rfl) (by kernel_rfl) (by kernel_rfl)
    first | with_reducible rfl | kernel_rfl
    (intros; kernel_rfl)
    (intros; kernel_rfl)
    (intros; kernel_rfl)
    (intros; kernel_rfl)
    first | with_reducible rfl | kernel_rfl
    first | with_reducible rfl | kernel_rfl⟩
@[irreducible] noncomputable def tcS (ns : List Int) : { f : St → Option (Fl × St) // ∀ (D : Ad) (c : Cx) (_ : Lw c D) (_ : ScriptAt c 0 ns) (A : Around) (_ : Room A 3) (L : Addr), ExS c A (lawSl D L) (exec Tc.1 (lawEn D L)) f } :=
  ⟨_, fun D c w S A r L => by
    delta Tc lawSl lawEn
    dsimp only
    with_reducible refine' ExS.assign ?_ ?_ ?_
    exact AccS.loc (i := 4) (by kernel_rfl) (by kernel_rfl) (by kernel_rfl)
    with_reducible refine' EvE.binop ?_ ?_ Op2.add
    with_reducible refine' EvE.item ?_ ?_ ?_ ?_
    with_reducible refine' EvE.name ?_ ?_
    exact Acc.loc (i := 1) (by kernel_rfl) (by kernel_rfl) (by kernel_rfl)
    first | with_reducible rfl | kernel_rfl
    with_reducible refine' EvE.name ?_ ?_
    exact Acc.loc (i := 3) (by kernel_rfl) (by kernel_rfl) (by kernel_rfl)
    first | with_reducible rfl | kernel_rfl
    (intros; kernel_rfl)
    (intros; kernel_rfl)
    with_reducible refine' EvE.call1 (id := "sum") (Says.bl ‹Lw _ _› ?_ ?_ ?_ ?_ ?_ ?_) ?_ (OpH.sum ‹Room _ _›.calm) ?_
    rotate_left 1
    first | with_reducible rfl | kernel_rfl
    first | with_reducible rfl | kernel_rfl
    first | with_reducible rfl | kernel_rfl
    first | with_reducible rfl | kernel_rfl
    first | with_reducible rfl | kernel_rfl
    first | with_reducible rfl | kernel_rfl
    with_reducible refine' EvE.comp (xs := (["x"] : List Str)) 23 ?_ ?_ ?_ ?_ ?_
    rotate_left 1
    first | with_reducible rfl | kernel_rfl
    exact ⟨by rfl, by decide +kernel, by rfl, by decide +kernel, by decide +kernel, ⟨_, List.Mem.head _⟩⟩
    with_reducible refine' EvI.value ?_
    with_reducible refine' EvE.sliceO ‹ScriptAt _ _ _› ?_ ?_ ?_ ?_ ?_ ?_
    rotate_left 4
    with_reducible refine' EvE.name ?_ ?_
    exact Acc.loc (i := 0) (by kernel_rfl) (by kernel_rfl) (by kernel_rfl)
    first | with_reducible rfl | kernel_rfl
    with_reducible refine' EvP.some ?_
    with_reducible refine' EvE.name ?_ ?_
    exact Acc.loc (i := 3) (by kernel_rfl) (by kernel_rfl) (by kernel_rfl)
    first | with_reducible rfl | kernel_rfl
    with_reducible refine' EvP.some ?_
    with_reducible exact EvE.int
    with_reducible refine' EvP.some ?_
    with_reducible exact EvE.int
    first | exact ⟨true, fun _ _ => by rfl⟩ | exact ⟨false, fun _ _ => by rfl⟩
    (intros; kernel_rfl)
    intro C
    with_reducible refine' LoopJ.l1 ‹Room _ _›.calm ?_ ?_
    rotate_left 2
    exact AccS.loc (i := 23) (by kernel_rfl) (by kernel_rfl) (by kernel_rfl)
    with_reducible refine' EvE.binop ?_ ?_ Op2.mod
    with_reducible refine' EvE.name ?_ ?_
    exact Acc.loc (i := 23) (by kernel_rfl) (by kernel_rfl) (by kernel_rfl)
    first | with_reducible rfl | kernel_rfl
    with_reducible refine' EvE.binop ?_ ?_ Op2.pow
    with_reducible exact EvE.int
    with_reducible exact EvE.int
    (intros; kernel_rfl)
    first | with_reducible rfl | kernel_rfl
    first | with_reducible rfl | kernel_rfl⟩
@[irreducible] noncomputable def tmS : { f : St → Option (Fl × St) // ∀ (D : Ad) (c : Cx) (_ : Lw c D) (A : Around) (_ : Room A 3) (L : Addr), ExS c A (lawSl D L) (execs Tm.1 (lawEn D L)) f } :=
  ⟨_, fun D c w A r L => by
    delta Tm lawSl lawEn
    dsimp only
    with_reducible refine' ExS.cons ?_ ?_
    with_reducible refine' ExS.assign ?_ ?_ ?_
    exact AccS.loc (i := 5) (by kernel_rfl) (by kernel_rfl) (by kernel_rfl)
    with_reducible refine' EvE.str (l := []) ?_
    first | with_reducible rfl | kernel_rfl
    first | with_reducible rfl | kernel_rfl
    with_reducible refine' ExS.cons ?_ ?_
    with_reducible refine' ExS.for_ 100 ‹Room _ _›.calm ?_ ?_ ?_ ?_
    rotate_left 3
    exact AccS.loc (i := 6) (by kernel_rfl) (by kernel_rfl) (by kernel_rfl)
    with_reducible refine' EvI.range1 (Says.bl ‹Lw _ _› ?_ ?_ ?_ ?_ ?_ ?_) ?_ ?_
    rotate_left 1
    first | with_reducible rfl | kernel_rfl
    first | with_reducible rfl | kernel_rfl
    first | with_reducible rfl | kernel_rfl
    first | with_reducible rfl | kernel_rfl
    first | with_reducible rfl | kernel_rfl
    first | with_reducible rfl | kernel_rfl
    with_reducible refine' EvE.binop ?_ ?_ Op2.add
    with_reducible exact EvE.int
    with_reducible refine' EvE.binop ?_ ?_ Op2.mod
    with_reducible refine' EvE.name ?_ ?_
    exact Acc.loc (i := 4) (by kernel_rfl) (by kernel_rfl) (by kernel_rfl)
    first | with_reducible rfl | kernel_rfl
    with_reducible exact EvE.int
    first | with_reducible rfl | kernel_rfl
    with_reducible refine' ExS.cons ?_ ?_
    with_reducible refine' ExS.aug ?_ ?_ Op2.iadd
    exact AccS.loc (i := 5) (by kernel_rfl) (by kernel_rfl) (by kernel_rfl)
    with_reducible refine' EvE.ite ?_ ?_ ?_
    with_reducible refine' EvB.cmp ?_ ?_ Op2.eq ?_
    with_reducible refine' EvE.binop ?_ ?_ Op2.mod
    with_reducible refine' EvE.binop ?_ ?_ Op2.div
    with_reducible refine' EvE.binop ?_ ?_ Op2.div
    with_reducible refine' EvE.name ?_ ?_
    exact Acc.loc (i := 4) (by kernel_rfl) (by kernel_rfl) (by kernel_rfl)
    first | with_reducible rfl | kernel_rfl
    with_reducible exact EvE.int
    with_reducible refine' EvE.binop ?_ ?_ Op2.pow
    with_reducible exact EvE.int
    with_reducible refine' EvE.name ?_ ?_
    exact Acc.loc (i := 6) (by kernel_rfl) (by kernel_rfl) (by kernel_rfl)
    first | with_reducible rfl | kernel_rfl
    with_reducible exact EvE.int
    with_reducible exact EvE.int
    first | with_reducible rfl | kernel_rfl
    with_reducible refine' EvE.str (l := [13]) ?_
    first | with_reducible rfl | kernel_rfl
    with_reducible refine' EvE.str (l := [10]) ?_
    first | with_reducible rfl | kernel_rfl
    exact ExS.nil
    (intros; kernel_rfl)
    with_reducible refine' ExS.cons ?_ ?_
    with_reducible refine' ExS.assign ?_ ?_ ?_
    exact AccS.loc (i := 7) (by kernel_rfl) (by kernel_rfl) (by kernel_rfl)
    with_reducible refine' EvE.list ?_
    exact EvL.nil
    first | with_reducible rfl | kernel_rfl
    with_reducible refine' ExS.cons ?_ ?_
    with_reducible refine' ExS.assign ?_ ?_ ?_
    exact AccS.loc (i := 8) (by kernel_rfl) (by kernel_rfl) (by kernel_rfl)
    with_reducible refine' EvE.str (l := [10]) ?_
    first | with_reducible rfl | kernel_rfl
    first | with_reducible rfl | kernel_rfl
    with_reducible refine' ExS.cons ?_ ?_
    with_reducible refine' ExS.for_ 100 ‹Room _ _›.calm ?_ ?_ ?_ ?_
    rotate_left 3
    exact AccS.loc (i := 9) (by kernel_rfl) (by kernel_rfl) (by kernel_rfl)
    with_reducible refine' EvI.value ?_
    with_reducible refine' EvE.binop ?_ ?_ Op2.add
    with_reducible refine' EvE.name ?_ ?_
    exact Acc.loc (i := 5) (by kernel_rfl) (by kernel_rfl) (by kernel_rfl)
    first | with_reducible rfl | kernel_rfl
    with_reducible refine' EvE.str (l := [13]) ?_
    first | with_reducible rfl | kernel_rfl
    with_reducible refine' ExS.cons ?_ ?_
    with_reducible refine' ExS.expr ?_ ?_ ?_
    with_reducible refine' EvE.append ?_ ?_ ?_ ?_ ?_ ?_
    exact Acc.loc (i := 7) (by kernel_rfl) (by kernel_rfl) (by kernel_rfl)
    with_reducible refine' EvE.ite ?_ ?_ ?_
    with_reducible refine' EvB.cmp ?_ ?_ Op2.eq ?_
    with_reducible refine' EvE.name ?_ ?_
    exact Acc.loc (i := 9) (by kernel_rfl) (by kernel_rfl) (by kernel_rfl)
    first | with_reducible rfl | kernel_rfl
    with_reducible refine' EvE.name ?_ ?_
    exact Acc.loc (i := 8) (by kernel_rfl) (by kernel_rfl) (by kernel_rfl)
    first | with_reducible rfl | kernel_rfl
    first | with_reducible rfl | kernel_rfl
    with_reducible exact EvE.int
    with_reducible exact EvE.int
    first | with_reducible rfl | kernel_rfl
    first | with_reducible rfl | kernel_rfl
    first | with_reducible rfl | kernel_rfl
    first | with_reducible rfl | kernel_rfl
    first | with_reducible rfl | kernel_rfl
    first | with_reducible rfl | kernel_rfl
    with_reducible refine' ExS.cons ?_ ?_
    with_reducible refine' ExS.assign ?_ ?_ ?_
    exact AccS.loc (i := 8) (by kernel_rfl) (by kernel_rfl) (by kernel_rfl)
    with_reducible refine' EvE.name ?_ ?_
    exact Acc.loc (i := 9) (by kernel_rfl) (by kernel_rfl) (by kernel_rfl)
    first | with_reducible rfl | kernel_rfl
    first | with_reducible rfl | kernel_rfl
    exact ExS.nil
    (intros; kernel_rfl)
    with_reducible refine' ExS.cons ?_ ?_
    with_reducible refine' ExS.unpack ‹Room _ _›.calm ?_ ?_ ?_ ?_
    rotate_left 2
    first | exact All2.nil | refine' All2.cons ⟨_, _, rfl, ?_⟩ ?_
    rotate_left 2
    exact AccS.loc (i := 10) (by kernel_rfl) (by kernel_rfl) (by kernel_rfl)
    first | exact All2.nil | refine' All2.cons ⟨_, _, rfl, ?_⟩ ?_
    rotate_left 2
    exact AccS.loc (i := 11) (by kernel_rfl) (by kernel_rfl) (by kernel_rfl)
    first | exact All2.nil | refine' All2.cons ⟨_, _, rfl, ?_⟩ ?_
    with_reducible refine' Mine.EvE.folds (k := 0) ‹Lw _ _› (Room.mono ‹Room _ _› (by decide)) ?_ ?_ ?_ ?_ ?_
    rotate_left 1
    first | with_reducible rfl | kernel_rfl
    first | with_reducible rfl | kernel_rfl
    first | with_reducible rfl | kernel_rfl
    with_reducible refine' EvL.cons ?_ ?_ ?_
    with_reducible refine' Mine.EvE.spelled (k := 0) ‹Lw _ _› (Room.mono ‹Room _ _› (by decide)) ?_ ?_ ?_ ?_ ?_
    rotate_left 1
    first | with_reducible rfl | kernel_rfl
    first | with_reducible rfl | kernel_rfl
    first | with_reducible rfl | kernel_rfl
    with_reducible refine' EvL.cons ?_ ?_ ?_
    with_reducible refine' EvE.name ?_ ?_
    exact Acc.loc (i := 7) (by kernel_rfl) (by kernel_rfl) (by kernel_rfl)
    first | with_reducible rfl | kernel_rfl
    with_reducible refine' EvL.cons ?_ ?_ ?_
    with_reducible refine' EvE.binop ?_ ?_ Op2.div
    with_reducible refine' EvE.name ?_ ?_
    exact Acc.loc (i := 4) (by kernel_rfl) (by kernel_rfl) (by kernel_rfl)
    first | with_reducible rfl | kernel_rfl
    with_reducible exact EvE.int
    exact EvL.nil
    first | with_reducible rfl | kernel_rfl
    first | with_reducible rfl | kernel_rfl
    first | with_reducible rfl | kernel_rfl
    exact EvL.nil
    first | with_reducible rfl | kernel_rfl
    first | with_reducible rfl | kernel_rfl
    first | with_reducible rfl | kernel_rfl
    first | with_reducible rfl | kernel_rfl
    with_reducible refine' ExS.cons ?_ ?_
    with_reducible refine' ExS.ite ?_ ?_ ?_
    with_reducible refine' EvB.or ?_ ?_
    with_reducible refine' EvB.cmp ?_ ?_ Op2.ne ?_
    with_reducible refine' EvE.name ?_ ?_
    exact Acc.loc (i := 10) (by kernel_rfl) (by kernel_rfl) (by kernel_rfl)
    first | with_reducible rfl | kernel_rfl
    with_reducible refine' EvE.binop ?_ ?_ Op2.mul
    with_reducible refine' EvE.str (l := [102]) ?_
    first | with_reducible rfl | kernel_rfl
    with_reducible refine' EvE.binop ?_ ?_ Op2.add
    with_reducible refine' EvE.call1 (id := "len") (Says.bl ‹Lw _ _› ?_ ?_ ?_ ?_ ?_ ?_) ?_ OpH.len ?_
    rotate_left 1
    first | with_reducible rfl | kernel_rfl
    first | with_reducible rfl | kernel_rfl
    first | with_reducible rfl | kernel_rfl
    first | with_reducible rfl | kernel_rfl
    first | with_reducible rfl | kernel_rfl
    first | with_reducible rfl | kernel_rfl
    with_reducible refine' Mine.EvE.fix (k := 0) ‹Lw _ _› (Room.mono ‹Room _ _› (by decide)) ?_ ?_ ?_ ?_ ?_
    rotate_left 1
    first | with_reducible rfl | kernel_rfl
    first | with_reducible rfl | kernel_rfl
    first | with_reducible rfl | kernel_rfl
    with_reducible refine' EvL.cons ?_ ?_ ?_
    with_reducible refine' EvE.name ?_ ?_
    exact Acc.loc (i := 5) (by kernel_rfl) (by kernel_rfl) (by kernel_rfl)
    first | with_reducible rfl | kernel_rfl
    exact EvL.nil
    first | with_reducible rfl | kernel_rfl
    first | with_reducible rfl | kernel_rfl
    first | with_reducible rfl | kernel_rfl
    with_reducible exact EvE.int
    first | with_reducible rfl | kernel_rfl
    with_reducible refine' EvB.cmpH ?_ ?_ (Op2H.neL (Room.more ‹Room _ _›)) ?_
    with_reducible refine' EvE.name ?_ ?_
    exact Acc.loc (i := 11) (by kernel_rfl) (by kernel_rfl) (by kernel_rfl)
    first | with_reducible rfl | kernel_rfl
    with_reducible refine' Mine.EvE.lengths (k := 0) ‹Lw _ _› (Room.mono ‹Room _ _› (by decide)) ?_ ?_ ?_ ?_ ?_
    rotate_left 1
    first | with_reducible rfl | kernel_rfl
    first | with_reducible rfl | kernel_rfl
    first | with_reducible rfl | kernel_rfl
    with_reducible refine' EvL.cons ?_ ?_ ?_
    with_reducible refine' EvE.name ?_ ?_
    exact Acc.loc (i := 5) (by kernel_rfl) (by kernel_rfl) (by kernel_rfl)
    first | with_reducible rfl | kernel_rfl
    exact EvL.nil
    first | with_reducible rfl | kernel_rfl
    first | with_reducible rfl | kernel_rfl
    first | with_reducible rfl | kernel_rfl
    with_reducible refine' ExS.cons ?_ ?_
    with_reducible refine' ExS.ret ?_
    with_reducible exact EvE.bool
    exact ExS.nil
    exact ExS.nil
    exact ExS.nil⟩
@[irreducible] noncomputable def taS : { f : St → Option (Fl × St) // ∀ (D : Ad) (c : Cx) (_ : Lw c D) (A : Around) (_ : Room A 3) (L : Addr), ExS c A (lawSl D L) (exec Ta.1 (lawEn D L)) f } :=
  ⟨_, fun D c w A r L => by
    delta Ta lawSl lawEn
    dsimp only
    with_reducible refine' ExS.expr ?_ ?_ ?_
    with_reducible refine' EvE.append ?_ ?_ ?_ ?_ ?_ ?_
    exact Acc.loc (i := 2) (by kernel_rfl) (by kernel_rfl) (by kernel_rfl)
    with_reducible refine' EvE.name ?_ ?_
    exact Acc.loc (i := 11) (by kernel_rfl) (by kernel_rfl) (by kernel_rfl)
    first | with_reducible rfl | kernel_rfl
    first | with_reducible rfl | kernel_rfl
    first | with_reducible rfl | kernel_rfl
    first | with_reducible rfl | kernel_rfl
    first | with_reducible rfl | kernel_rfl
    first | with_reducible rfl | kernel_rfl
    first | with_reducible rfl | kernel_rfl⟩
@[irreducible] noncomputable def l12S : { f : St → Option (Fl × St) // ∀ (D : Ad) (c : Cx) (_ : Lw c D) (A : Around) (_ : Room A 3) (L : Addr), ExS c A (lawSl D L) (exec Li12.1 (lawEn D L)) f } :=
  ⟨_, fun D c w A r L => by
    delta Li12 lawSl lawEn
    dsimp only
    with_reducible refine' ExS.ret ?_
    with_reducible refine' EvE.and3 ?_ ?_ ?_
    with_reducible refine' EvE.name ?_ ?_
    exact Acc.loc (i := 18) (by kernel_rfl) (by kernel_rfl) (by kernel_rfl)
    first | with_reducible rfl | kernel_rfl
    with_reducible refine' EvE.name ?_ ?_
    exact Acc.loc (i := 19) (by kernel_rfl) (by kernel_rfl) (by kernel_rfl)
    first | with_reducible rfl | kernel_rfl
    with_reducible refine' EvE.cmpH ?_ ?_ (Op2H.eqB (Room.few ‹Room _ _›)) ?_
    with_reducible refine' EvE.list ?_
    with_reducible refine' EvL.cons ?_ ?_ ?_
    with_reducible refine' Mine.EvE.int2 (k := 0) ‹Lw _ _› (Room.mono ‹Room _ _› (by decide)) ?_ ?_ ?_ ?_ ?_
    rotate_left 1
    first | with_reducible rfl | kernel_rfl
    first | with_reducible rfl | kernel_rfl
    first | with_reducible rfl | kernel_rfl
    with_reducible refine' EvL.cons ?_ ?_ ?_
    with_reducible refine' EvE.name ?_ ?_
    exact Acc.loc (i := 21) (by kernel_rfl) (by kernel_rfl) (by kernel_rfl)
    first | with_reducible rfl | kernel_rfl
    exact EvL.nil
    first | with_reducible rfl | kernel_rfl
    first | with_reducible rfl | kernel_rfl
    with_reducible refine' EvL.cons ?_ ?_ ?_
    with_reducible refine' Mine.EvE.int2 (k := 0) ‹Lw _ _› (Room.mono ‹Room _ _› (by decide)) ?_ ?_ ?_ ?_ ?_
    rotate_left 1
    first | with_reducible rfl | kernel_rfl
    first | with_reducible rfl | kernel_rfl
    first | with_reducible rfl | kernel_rfl
    with_reducible refine' EvL.cons ?_ ?_ ?_
    with_reducible refine' EvE.unop ?_ Op1.neg
    with_reducible refine' EvE.name ?_ ?_
    exact Acc.loc (i := 21) (by kernel_rfl) (by kernel_rfl) (by kernel_rfl)
    first | with_reducible rfl | kernel_rfl
    exact EvL.nil
    first | with_reducible rfl | kernel_rfl
    first | with_reducible rfl | kernel_rfl
    with_reducible refine' EvL.cons ?_ ?_ ?_
    with_reducible refine' Mine.EvE.int2 (k := 0) ‹Lw _ _› (Room.mono ‹Room _ _› (by decide)) ?_ ?_ ?_ ?_ ?_
    rotate_left 1
    first | with_reducible rfl | kernel_rfl
    first | with_reducible rfl | kernel_rfl
    first | with_reducible rfl | kernel_rfl
    with_reducible refine' EvL.cons ?_ ?_ ?_
    with_reducible refine' EvE.name ?_ ?_
    exact Acc.loc (i := 22) (by kernel_rfl) (by kernel_rfl) (by kernel_rfl)
    first | with_reducible rfl | kernel_rfl
    exact EvL.nil
    first | with_reducible rfl | kernel_rfl
    first | with_reducible rfl | kernel_rfl
    with_reducible refine' EvL.cons ?_ ?_ ?_
    with_reducible refine' Mine.EvE.int2 (k := 0) ‹Lw _ _› (Room.mono ‹Room _ _› (by decide)) ?_ ?_ ?_ ?_ ?_
    rotate_left 1
    first | with_reducible rfl | kernel_rfl
    first | with_reducible rfl | kernel_rfl
    first | with_reducible rfl | kernel_rfl
    with_reducible refine' EvL.cons ?_ ?_ ?_
    with_reducible refine' EvE.unop ?_ Op1.neg
    with_reducible refine' EvE.name ?_ ?_
    exact Acc.loc (i := 22) (by kernel_rfl) (by kernel_rfl) (by kernel_rfl)
    first | with_reducible rfl | kernel_rfl
    exact EvL.nil
    first | with_reducible rfl | kernel_rfl
    first | with_reducible rfl | kernel_rfl
    exact EvL.nil
    first | with_reducible rfl | kernel_rfl
    first | with_reducible rfl | kernel_rfl
    first | with_reducible rfl | kernel_rfl
    first | with_reducible rfl | kernel_rfl
    with_reducible refine' EvE.list ?_
    with_reducible refine' EvL.cons ?_ ?_ ?_
    with_reducible refine' EvE.name ?_ ?_
    exact Acc.loc (i := 16) (by kernel_rfl) (by kernel_rfl) (by kernel_rfl)
    first | with_reducible rfl | kernel_rfl
    with_reducible refine' EvL.cons ?_ ?_ ?_
    with_reducible refine' EvE.name ?_ ?_
    exact Acc.loc (i := 16) (by kernel_rfl) (by kernel_rfl) (by kernel_rfl)
    first | with_reducible rfl | kernel_rfl
    with_reducible refine' EvL.cons ?_ ?_ ?_
    with_reducible refine' EvE.name ?_ ?_
    exact Acc.loc (i := 16) (by kernel_rfl) (by kernel_rfl) (by kernel_rfl)
    first | with_reducible rfl | kernel_rfl
    with_reducible refine' EvL.cons ?_ ?_ ?_
    with_reducible refine' EvE.name ?_ ?_
    exact Acc.loc (i := 16) (by kernel_rfl) (by kernel_rfl) (by kernel_rfl)
    first | with_reducible rfl | kernel_rfl
    exact EvL.nil
    first | with_reducible rfl | kernel_rfl
    first | with_reducible rfl | kernel_rfl
    first | with_reducible rfl | kernel_rfl
    first | with_reducible rfl | kernel_rfl
    first | with_reducible rfl | kernel_rfl⟩
end Mine

-- C1
namespace Mine
noncomputable def stG (v0 u : List (Option V)) (h0 : List O) (acc : List V) : Mine.St := { v := v0 ++ u, h := h0 ++ [.list acc] }
/-- a step that puts out behind what has been put -/
noncomputable def Em (v0 : List (Option V)) (h0 : List O) (k : Nat) (C : List Nat) (u0 : List (Option V)) (step : Mine.St → Option Mine.St) (out : List V) : Prop :=
  ∀ u acc, u.length = k → (∀ q, q ∉ C → u[q]? = u0[q]?) → acc.length + out.length ≤ 9000 → ∃ u', u'.length = k ∧ (∀ q, q ∉ C → u'[q]? = u0[q]?) ∧ step (stG v0 u h0 acc) = some (stG v0 u' h0 (acc ++ out))
noncomputable def stepOf (body : Mine.St → Option (Fl × Mine.St)) : Mine.St → Option Mine.St := fun σ => match body σ with
  | some (.next, σ') => some σ'
  | _ => none
section
variable {v0 : List (Option V)} {h0 : List O} {k : Nat} {C : List Nat} {u0 : List (Option V)}
theorem Em.put {f : Mine.St → Option (V × Mine.St)} {y : V} (hk : u0.length = k) (hf : ∀ acc, f (stG v0 u0 h0 acc) = some (y, stG v0 u0 h0 acc)) : Em v0 h0 k [] u0 (stepOf (putF f h0.length)) [y] := by
  intro u acc hu he hl
  have e : u = u0 := List.ext_getElem? fun q => he q (by simp)
  subst e
  refine ⟨u, hu, fun _ _ => rfl, ?_⟩
  unfold stepOf putF
  rw [hf]
  have e2 : (stG v0 u h0 acc).h[h0.length]? = some (.list acc) := by simp [stG]
  dsimp only
  rw [e2]
  dsimp only
  rw [if_pos (by omega)]
  simp [stG]
theorem Em.in_ {f : Mine.St → Option (Src × Mine.St)} {F : Nat → Src → Mine.St → Option Mine.St} {m : Nat} {out : List V} (hf : ∀ u acc, u.length = k → (∀ q, q ∉ C → u[q]? = u0[q]?) → f (stG v0 u h0 acc) = some (.list m 0, stG v0 u h0 acc))
    (h : Em v0 h0 k C u0 (F h0.length (.list m 0)) out) : Em v0 h0 k C u0 (stepOf (inF f F h0.length)) out := by
  intro u acc hu he hl
  obtain ⟨u', a, b, e⟩ := h u acc hu he hl
  refine ⟨u', a, b, ?_⟩
  unfold stepOf inF
  rw [hf u acc hu he]
  dsimp only
  rw [if_pos (by rfl), e]
theorem Em.loop {body : Mine.St → Option (Fl × Mine.St)} {xs : List V} {out : V → List V} {m p fuel n : Nat} (hn : n = v0.length + p) (hm : h0[m]? = some (.list xs)) (hp : p < k) (hk : u0.length = k) (hfu : xs.length < fuel)
    (hb : ∀ x ∈ xs, Em v0 h0 k C (u0.set p (some x)) (stepOf body) (out x)) : Em v0 h0 k (p :: C) u0 (fun σ => forF n body fuel (.list m 0) σ) (xs.flatMap out) := by
  subst hn
  have main : ∀ (ys : List V) (i fuel : Nat), xs.drop i = ys → ys.length < fuel → ∀ u acc, u.length = k → (∀ q, q ∉ p :: C → u[q]? = u0[q]?) → acc.length + (ys.flatMap out).length ≤ 9000 →
      ∃ u', u'.length = k ∧ (∀ q, q ∉ p :: C → u'[q]? = u0[q]?) ∧ forF (v0.length + p) body fuel (.list m i) (stG v0 u h0 acc) = some (stG v0 u' h0 (acc ++ ys.flatMap out)) := by
    intro ys
    induction ys with
    | nil =>
      intro i fuel hd hfu u acc hu he hl
      obtain ⟨f, rfl⟩ : ∃ f, fuel = f + 1 := ⟨fuel - 1, by simp at hfu; omega⟩
      refine ⟨u, hu, he, ?_⟩
      have hmm : m < h0.length := (List.getElem?_eq_some_iff.mp hm).1
      have e1 : (stG v0 u h0 acc).h[m]? = some (.list xs) := by simp [stG, List.getElem?_append_left hmm, hm]
      have e2 : xs[i]? = none := by
        have : xs.length ≤ i := by simpa using hd
        simp [this]
      unfold forF
      have e3 : next (.list m i) (stG v0 u h0 acc) = some none := by
        show nextL (stG v0 u h0 acc).h m i = _
        unfold nextL
        rw [e1]; dsimp only; rw [e2]
      rw [e3]
      simp
    | cons x r ih =>
      intro i fuel hd hfu u acc hu he hl
      obtain ⟨f, rfl⟩ : ∃ f, fuel = f + 1 := ⟨fuel - 1, by simp at hfu; omega⟩
      have hmm : m < h0.length := (List.getElem?_eq_some_iff.mp hm).1
      have e1 : (stG v0 u h0 acc).h[m]? = some (.list xs) := by simp [stG, List.getElem?_append_left hmm, hm]
      have e2 : xs[i]? = some x := by
        have := congrArg (·[0]?) hd
        simpa using this
      have hx : x ∈ xs := List.mem_of_getElem? e2
      have hd' : xs.drop (i + 1) = r := by
        have := congrArg (·.drop 1) hd
        simpa [List.drop_drop] using this
      have e3 : next (.list m i) (stG v0 u h0 acc) = some (some (x, .list m (i + 1))) := by
        show nextL (stG v0 u h0 acc).h m i = _
        unfold nextL
        rw [e1]; dsimp only; rw [e2]
      have e4 : setV (stG v0 u h0 acc) (v0.length + p) x = stG v0 (u.set p (some x)) h0 acc := by
        unfold setV stG
        congr 1
        rw [List.set_append_right _ _ (by omega)]
        congr 2; omega
      rw [List.flatMap_cons, List.length_append] at hl
      obtain ⟨u1, a1, b1, c1⟩ := hb x hx (u.set p (some x)) acc (by simpa using hu) (fun q hq => by
        rw [List.getElem?_set, List.getElem?_set]
        by_cases hqp : p = q
        · subst hqp; simp [hu, hk]
        · rw [if_neg hqp, if_neg hqp]
          exact he q (by simp [hq, Ne.symm hqp])) (by omega)
      obtain ⟨u2, a2, b2, c2⟩ := ih (i + 1) f hd' (by simpa using hfu) u1 (acc ++ out x) a1 (fun q hq => by
        have hq' : q ≠ p ∧ q ∉ C := by simpa using hq
        rw [b1 q hq'.2, List.getElem?_set, if_neg (Ne.symm hq'.1)]) (by rw [List.length_append]; omega)
      refine ⟨u2, a2, b2, ?_⟩
      unfold forF
      rw [e3]
      dsimp only
      rw [e4]
      unfold stepOf at c1
      cases hbo : body (stG v0 (u.set p (some x)) h0 acc) with
      | none => rw [hbo] at c1; cases c1
      | some r1 =>
        obtain ⟨fl, σ'⟩ := r1
        rw [hbo] at c1
        cases fl with
        | ret _ => cases c1
        | next =>
          cases c1
          dsimp only
          rw [c2, List.flatMap_cons, List.append_assoc]
  intro u acc hu he hl
  exact main xs 0 fuel rfl hfu u acc hu he hl
theorem comp_eq {f : Mine.St → Option (Src × Mine.St)} {F : Nat → Src → Mine.St → Option Mine.St} {n m : Nat} {σ σ₁ : Mine.St} {out : List V} (e : f σ = some (.list m 0, σ₁)) (hn : σ₁.v.length = n) (ho : out.length ≤ 9000)
    (h : Em σ₁.v σ₁.h k C (List.replicate k none) (F σ₁.h.length (.list m 0)) out) : compF n k f F σ = some (.ref σ₁.h.length, { v := σ₁.v, h := σ₁.h ++ [.list out] }) := by
  obtain ⟨u', a, _, c⟩ := h (List.replicate k none) [] (by simp) (fun _ _ => rfl) (by simpa using ho)
  unfold compF
  rw [e]
  dsimp only
  rw [if_pos ⟨rfl, hn⟩]
  have e2 : ({ v := σ₁.v ++ List.replicate k none, h := σ₁.h ++ [.list []] } : Mine.St) = stG σ₁.v (List.replicate k none) σ₁.h [] := rfl
  rw [e2, c]
  simp [stG, ← hn]
end
end Mine

-- C2
namespace Mine
noncomputable def fibAt (t : Int) : Int := fibN.getD t.toNat 0
theorem fib_len : fibN.length = 42 := by decide +kernel
section
variable {v0 u : List (Option V)} {h0 : List O} {acc : List V} {n i m : Nat}
theorem get_v {σ : Mine.St} {v : V} (e : σ.v[i]? = some (some v)) : getF i σ = some (v, σ) := by unfold getF; rw [e]
theorem get_fix {v : V} (e : v0[i]? = some (some v)) : getF i (stG v0 u h0 acc) = some (v, stG v0 u h0 acc) := by
  refine get_v ?_
  have hi := (List.getElem?_eq_some_iff.mp e).1
  show (v0 ++ u)[i]? = _
  rw [List.getElem?_append_left hi]; exact e
theorem get_var {v : V} {q : Nat} (hn : n = v0.length + q) (e : u[q]? = some (some v)) : getF n (stG v0 u h0 acc) = some (v, stG v0 u h0 acc) := by
  subst hn
  refine get_v ?_
  show (v0 ++ u)[v0.length + q]? = _
  rw [List.getElem?_append_right (by omega)]
  rw [show v0.length + q - v0.length = q by omega]; exact e
theorem iter_fix {xs : List V} (e : v0[i]? = some (some (.ref m))) (hm : h0[m]? = some (.list xs)) : iterF (getF i) (stG v0 u h0 acc) = some (.list m 0, stG v0 u h0 acc) := by
  unfold iterF
  rw [get_fix e]
  have hmm := (List.getElem?_eq_some_iff.mp hm).1
  have e1 : (stG v0 u h0 acc).h[m]? = some (.list xs) := by simp [stG, List.getElem?_append_left hmm, hm]
  dsimp only
  rw [e1]
theorem item_fib {h : List O} {t : Int} (hm : h[m]? = some (intL fibN)) (h0 : 0 ≤ t) (h1 : t < 42) : itemV h (.ref m) (.int 0 t) = some (.int 0 (fibAt t)) := by
  have e : idxV (fibN.map (V.int 0 ·)).length t = some t.toNat := by
    unfold idxV
    rw [List.length_map, fib_len, if_pos h0, if_pos (by omega)]
  have e2 : (fibN.map (V.int 0 ·))[t.toNat]? = some (.int 0 (fibAt t)) := by
    have hl : t.toNat < fibN.length := by rw [fib_len]; omega
    rw [List.getElem?_map, List.getElem?_eq_getElem hl]
    simp [fibAt, List.getD, hl]
  unfold itemV
  dsimp only
  rw [if_pos rfl, hm]
  dsimp only [intL]
  rw [if_pos (by simp [fib_len]), e]
  exact e2
noncomputable def conv2 (p q : List Int) : List Int := p.flatMap fun i => q.map fun j => fibAt (i + j)
noncomputable def conv3 (p q r : List Int) : List Int := p.flatMap fun i => q.flatMap fun j => r.map fun k => fibAt (i + j + k)
theorem stG_h {σ : Mine.St} : (stG v0 u h0 acc).h = h0 ++ [.list acc] := rfl
noncomputable def outI (f : Int → List V) : V → List V
  | .int _ x => f x
  | _ => []
theorem flat_outI (p : List Int) (f : Int → List V) : (p.map (V.int 0 ·)).flatMap (outI f) = p.flatMap f := by
  rw [List.flatMap_map]; rfl
theorem map_flat (p : List Int) (f : Int → List Int) : p.flatMap (fun i => (f i).map (V.int 0 ·)) = (p.flatMap f).map (V.int 0 ·) := by
  rw [List.map_flatMap]
theorem len_flat_le {p : List Int} {f : Int → List Int} {b : Nat} (h : ∀ i ∈ p, (f i).length ≤ b) : (p.flatMap f).length ≤ p.length * b := by
  induction p with
  | nil => simp
  | cons a r ih =>
    rw [List.flatMap_cons, List.length_append, List.length_cons, Nat.succ_mul]
    have h1 := h a (.head _)
    have h2 := ih fun i hi => h i (.tail _ hi)
    omega
theorem flat_one (g : Int → Int) : ∀ q : List Int, (q.flatMap fun j => [V.int 0 (g j)]) = q.map fun j => V.int 0 (g j)
  | [] => rfl
  | x :: r => by rw [List.flatMap_cons, List.map_cons, flat_one g r]; rfl
/-- the item of numbers at a sum of two -/
theorem item2 {x y : Int} {N i1 i2 : Nat} (hN : v0[N]? = some (some (.ref m))) (hm : h0[m]? = some (intL fibN)) (h1 : getF i1 (stG v0 u h0 acc) = some (.int 0 x, stG v0 u h0 acc)) (h2 : getF i2 (stG v0 u h0 acc) = some (.int 0 y, stG v0 u h0 acc)) (a : 0 ≤ x + y) (b : x + y < 42) :
    binH (getF N) (bin (getF i1) (getF i2) addV) itemV (stG v0 u h0 acc) = some (.int 0 (fibAt (x + y)), stG v0 u h0 acc) := by
  have hmm := (List.getElem?_eq_some_iff.mp hm).1
  unfold binH
  rw [get_fix hN]
  dsimp only [bin]
  rw [h1]; dsimp only; rw [h2]; dsimp only [addV]
  rw [show (0 : Int) + 0 = 0 from rfl, item_fib (h := (stG v0 u h0 acc).h) (by simp [stG, List.getElem?_append_left hmm, hm]) a b]
theorem item3 {x y z : Int} {N i1 i2 i3 : Nat} (hN : v0[N]? = some (some (.ref m))) (hm : h0[m]? = some (intL fibN)) (h1 : getF i1 (stG v0 u h0 acc) = some (.int 0 x, stG v0 u h0 acc)) (h2 : getF i2 (stG v0 u h0 acc) = some (.int 0 y, stG v0 u h0 acc)) (h3 : getF i3 (stG v0 u h0 acc) = some (.int 0 z, stG v0 u h0 acc)) (a : 0 ≤ x + y + z) (b : x + y + z < 42) :
    binH (getF N) (bin (bin (getF i1) (getF i2) addV) (getF i3) addV) itemV (stG v0 u h0 acc) = some (.int 0 (fibAt (x + y + z)), stG v0 u h0 acc) := by
  have hmm := (List.getElem?_eq_some_iff.mp hm).1
  unfold binH
  rw [get_fix hN]
  dsimp only [bin]
  rw [h1]; dsimp only; rw [h2]; dsimp only [addV]; rw [h3]; dsimp only
  rw [show (0 : Int) + 0 + 0 = 0 from rfl, item_fib (h := (stG v0 u h0 acc).h) (by simp [stG, List.getElem?_append_left hmm, hm]) a b]
theorem comp2 {σ : Mine.St} {n a b N i1 i2 ma mb mn : Nat} {p q : List Int} (hn : σ.v.length = n) (h1 : i1 = n) (h2 : i2 = n + 1) (ha : σ.v[a]? = some (some (.ref ma))) (hma : σ.h[ma]? = some (intL p)) (hb : σ.v[b]? = some (some (.ref mb))) (hmb : σ.h[mb]? = some (intL q)) (hN : σ.v[N]? = some (some (.ref mn))) (hmn : σ.h[mn]? = some (intL fibN))
    (hp : p.length < 90) (hq : q.length < 90) (hi : ∀ i ∈ p, ∀ j ∈ q, 0 ≤ i + j ∧ i + j < 42) :
    compF n 2 (iterF (getF a)) (fun j src σ => forF i1 (inF (iterF (getF b)) (fun j src σ => forF i2 (putF (binH (getF N) (bin (getF i1) (getF i2) addV) itemV) j) 100 src σ) j) 100 src σ) σ = some (.ref σ.h.length, { v := σ.v, h := σ.h ++ [intL (conv2 p q)] }) := by
  subst hn h1 h2
  have eo : (p.map (V.int 0 ·)).flatMap (outI fun i => (q.map (V.int 0 ·)).flatMap (outI fun j => [.int 0 (fibAt (i + j))])) = (conv2 p q).map (V.int 0 ·) := by
    rw [flat_outI]
    unfold conv2
    rw [List.map_flatMap]
    congr 1; funext i
    rw [flat_outI, List.map_map, flat_one]
    rfl
  have hl : (conv2 p q).length ≤ 9000 := by
    have := len_flat_le (p := p) (f := fun i => q.map fun j => fibAt (i + j)) (b := 90) (fun i _ => by rw [List.length_map]; omega)
    unfold conv2
    omega
  have e1 : iterF (getF a) σ = some (.list ma 0, σ) := by
    unfold iterF
    rw [get_v ha]; dsimp only; rw [hma]; rfl
  refine comp_eq (C := [0, 1]) e1 rfl (by rw [List.length_map]; exact hl) ?_
  rw [← eo]
  refine Em.loop (by rw [Nat.add_zero]) hma (by omega) (by simp) (by rw [List.length_map]; omega) fun x hx => ?_
  obtain ⟨i, hip, rfl⟩ := List.mem_map.mp hx
  refine Em.in_ (m := mb) (fun u acc _ _ => iter_fix hb hmb) ?_
  refine Em.loop rfl hmb (by omega) (by simp) (by rw [List.length_map]; omega) fun y hy => ?_
  obtain ⟨j, hjq, rfl⟩ := List.mem_map.mp hy
  refine Em.put (by simp) fun acc => ?_
  exact item2 hN hmn (get_var (q := 0) (by omega) (by simp)) (get_var (q := 1) (by omega) (by simp)) (hi i hip j hjq).1 (hi i hip j hjq).2
theorem comp3 {σ : Mine.St} {n a b d N i1 i2 i3 ma mb md mn : Nat} {p q r : List Int} (hn : σ.v.length = n) (h1 : i1 = n) (h2 : i2 = n + 1) (h3 : i3 = n + 2) (ha : σ.v[a]? = some (some (.ref ma))) (hma : σ.h[ma]? = some (intL p)) (hb : σ.v[b]? = some (some (.ref mb))) (hmb : σ.h[mb]? = some (intL q)) (hd : σ.v[d]? = some (some (.ref md))) (hmd : σ.h[md]? = some (intL r))
    (hN : σ.v[N]? = some (some (.ref mn))) (hmn : σ.h[mn]? = some (intL fibN))
    (hp : p.length < 20) (hq : q.length < 20) (hr : r.length < 20) (hi : ∀ i ∈ p, ∀ j ∈ q, ∀ k ∈ r, 0 ≤ i + j + k ∧ i + j + k < 42) :
    compF n 3 (iterF (getF a)) (fun j src σ => forF i1 (inF (iterF (getF b)) (fun j src σ => forF i2 (inF (iterF (getF d)) (fun j src σ => forF i3 (putF (binH (getF N) (bin (bin (getF i1) (getF i2) addV) (getF i3) addV) itemV) j) 100 src σ) j) 100 src σ) j) 100 src σ) σ = some (.ref σ.h.length, { v := σ.v, h := σ.h ++ [intL (conv3 p q r)] }) := by
  subst hn h1 h2 h3
  have eo : (p.map (V.int 0 ·)).flatMap (outI fun i => (q.map (V.int 0 ·)).flatMap (outI fun j => (r.map (V.int 0 ·)).flatMap (outI fun k => [.int 0 (fibAt (i + j + k))]))) = (conv3 p q r).map (V.int 0 ·) := by
    rw [flat_outI]
    unfold conv3
    rw [List.map_flatMap]
    congr 1; funext i
    rw [flat_outI, List.map_flatMap]
    congr 1; funext j
    rw [flat_outI, List.map_map, flat_one]
    rfl
  have hl : (conv3 p q r).length ≤ 9000 := by
    have h1 : ∀ i ∈ p, (q.flatMap fun j => r.map fun k => fibAt (i + j + k)).length ≤ 400 := fun i _ => by
      have := len_flat_le (p := q) (f := fun j => r.map fun k => fibAt (i + j + k)) (b := 20) (fun j _ => by rw [List.length_map]; omega)
      omega
    have := len_flat_le (p := p) (f := fun i => q.flatMap fun j => r.map fun k => fibAt (i + j + k)) (b := 400) h1
    unfold conv3
    omega
  have e1 : iterF (getF a) σ = some (.list ma 0, σ) := by
    unfold iterF
    rw [get_v ha]; dsimp only; rw [hma]; rfl
  refine comp_eq (C := [0, 1, 2]) e1 rfl (by rw [List.length_map]; exact hl) ?_
  rw [← eo]
  refine Em.loop (by rw [Nat.add_zero]) hma (by omega) (by simp) (by rw [List.length_map]; omega) fun x hx => ?_
  obtain ⟨i, hip, rfl⟩ := List.mem_map.mp hx
  refine Em.in_ (m := mb) (fun u acc _ _ => iter_fix hb hmb) ?_
  refine Em.loop rfl hmb (by omega) (by simp) (by rw [List.length_map]; omega) fun y hy => ?_
  obtain ⟨j, hjq, rfl⟩ := List.mem_map.mp hy
  refine Em.in_ (m := md) (fun u acc _ _ => iter_fix hd hmd) ?_
  refine Em.loop rfl hmd (by omega) (by simp) (by rw [List.length_map]; omega) fun z hz => ?_
  obtain ⟨k, hkr, rfl⟩ := List.mem_map.mp hz
  refine Em.put (by simp) fun acc => ?_
  exact item3 hN hmn (get_var (q := 0) (by omega) (by simp)) (get_var (q := 1) (by omega) (by simp)) (get_var (q := 2) (by omega) (by simp)) (hi i hip j hjq k hkr).1 (hi i hip j hjq k hkr).2
theorem intsOf_ints : ∀ l : List Int, intsOf (l.map (V.int 0 ·)) = some l
  | [] => rfl
  | x :: r => by
    rw [List.map_cons]
    unfold intsOf
    rw [if_pos rfl, intsOf_ints r]
theorem sum_ints {h : List O} {l : List Int} (e : h[i]? = some (intL l)) : sumV h (.ref i) = some (.int 0 l.sum) := by
  unfold sumV
  dsimp only
  rw [e]
  dsimp only [intL]
  rw [intsOf_ints]
/-- the script's numbers -/
noncomputable def low20 (x : Int) : Int := x % 1048576
theorem comp1 {ns : List Int} {σ : Mine.St} {n w : Nat} {k : Int} {g : Mine.St → Option ((Option Int × Option Int × Option Int) × Mine.St)} {lo hi st : Option Int} (hn : σ.v.length = n) (hs : σ.v[0]? = some (some (.opq 0))) (hg : g σ = some ((lo, hi, st), σ)) (hst : st ≠ some 0) (hns : ns.length ≤ 100000)
    (hlen : (pickV (ns.map (V.int 0 ·)) lo hi st).length < 100) {xs : List Int} (hx : pickV (ns.map (V.int 0 ·)) lo hi st = xs.map (V.int 0 ·)) :
    compF n 1 (iterF (sliceOF ns (getF 0) g)) (fun j src σ => forF n (putF (bin (getF n) (bin (lit (V.int 0 2)) (lit (V.int 0 20)) powV) modV) j) 100 src σ) σ = some (.ref (σ.h.length + 1), { v := σ.v, h := σ.h ++ [intL xs] ++ [intL (xs.map low20)] }) := by
  subst hn
  have e1 : iterF (sliceOF ns (getF 0) g) σ = some (.list σ.h.length 0, { v := σ.v, h := σ.h ++ [intL xs] }) := by
    unfold iterF sliceOF
    simp only [get_v hs, hg]
    rw [if_neg hst, if_pos hns, hx]
    simp [intL]
  have hm : ({ v := σ.v, h := σ.h ++ [intL xs] } : Mine.St).h[σ.h.length]? = some (.list (xs.map (V.int 0 ·))) := by simp [intL]
  have eo : (xs.map (V.int 0 ·)).flatMap (outI fun i => [.int 0 (low20 i)]) = (xs.map low20).map (V.int 0 ·) := by
    rw [flat_outI, flat_one, List.map_map]; rfl
  rw [hx, List.length_map] at hlen
  have := comp_eq (C := [0]) (k := 1) (F := fun j src σ' => forF σ.v.length (putF (bin (getF σ.v.length) (bin (lit (V.int 0 2)) (lit (V.int 0 20)) powV) modV) j) 100 src σ') (out := (xs.map low20).map (V.int 0 ·)) (n := σ.v.length) e1 rfl (by simp; omega) (by
    rw [← eo]
    refine Em.loop (by rfl) hm (by omega) (by simp) (by rw [List.length_map]; omega) fun x hx => ?_
    obtain ⟨i, _, rfl⟩ := List.mem_map.mp hx
    refine Em.put (by simp) fun acc => ?_
    unfold bin
    rw [get_var (q := 0) (v := .int 0 i) (by rfl) (by simp)]
    rfl)
  rw [this]
  simp [intL]
end
end Mine

-- C3
namespace Mine
section
variable {σ σ₁ σ₂ σ₃ : Mine.St} {a b v : V} {l : List V}
theorem seq_of {f g : Mine.St → Option (Fl × Mine.St)} (e : f σ = some (.next, σ₁)) : seqF f g σ = g σ₁ := by unfold seqF; rw [e]
theorem set_of {i : Nat} {f : Mine.St → Option (V × Mine.St)} (e : f σ = some (v, σ₁)) : setF i f σ = some (.next, { σ₁ with v := σ₁.v.set i (some v) }) := by unfold setF; rw [e]
theorem bin_of {f g : Mine.St → Option (V × Mine.St)} {k : V → V → Option V} (e1 : f σ = some (a, σ₁)) (e2 : g σ₁ = some (b, σ₂)) (e3 : k a b = some v) : bin f g k σ = some (v, σ₂) := by unfold bin; rw [e1]; dsimp only; rw [e2]; dsimp only; rw [e3]
theorem binH_of {f g : Mine.St → Option (V × Mine.St)} {k : List O → V → V → Option V} (e1 : f σ = some (a, σ₁)) (e2 : g σ₁ = some (b, σ₂)) (e3 : k σ₂.h a b = some v) : binH f g k σ = some (v, σ₂) := by unfold binH; rw [e1]; dsimp only; rw [e2]; dsimp only; rw [e3]
theorem unH_of {f : Mine.St → Option (V × Mine.St)} {k : List O → V → Option V} (e1 : f σ = some (a, σ₁)) (e3 : k σ₁.h a = some v) : unH f k σ = some (v, σ₁) := by unfold unH; rw [e1]; dsimp only; rw [e3]
theorem un_of {f : Mine.St → Option (V × Mine.St)} {k : V → Option V} (e1 : f σ = some (a, σ₁)) (e3 : k a = some v) : un f k σ = some (v, σ₁) := by unfold un; rw [e1]; dsimp only; rw [e3]
theorem cons_of {f : Mine.St → Option (V × Mine.St)} {g : Mine.St → Option (List V × Mine.St)} (e1 : f σ = some (a, σ₁)) (e2 : g σ₁ = some (l, σ₂)) : consF f g σ = some (a :: l, σ₂) := by unfold consF; rw [e1]; dsimp only; rw [e2]
theorem new_of {g : Mine.St → Option (List V × Mine.St)} {k : List V → O} (e : g σ = some (l, σ₁)) (hl : l.length ≤ 10000) : newF g k σ = some (.ref σ₁.h.length, { σ₁ with h := σ₁.h ++ [k l] }) := by unfold newF; rw [e]; dsimp only; rw [if_pos hl]
theorem ret_of {f : Mine.St → Option (V × Mine.St)} (e : f σ = some (v, σ₁)) : retF f σ = some (.ret v, σ₁) := by unfold retF; rw [e]
end
noncomputable def vR (pl f1 f2 f3 nu wo le go we ot ah be : Option V) : List (Option V) := [none, none, none, none, none, none, none, none, none, none, none, pl, f1, f2, f3, nu, wo, le, go, we, ot, ah, be]
/-- the signs of a number, A to P -/
noncomputable def hexL : Nat → Int → List UInt8
  | 0, _ => []
  | n + 1, m => if m ≤ 0 then [] else hexL n (m / 16) ++ [(65 + m % 16).toNat.toUInt8]
theorem hexL_len : ∀ (n : Nat) (m : Int), (hexL n m).length ≤ n
  | 0, _ => Nat.le_refl _
  | n + 1, m => by
    unfold hexL
    split
    · simp
    · have := hexL_len n (m / 16)
      simp; omega
section
variable {pl f1 f2 f3 nu wo le go we ot ah be : Option V} {h : List O}
noncomputable abbrev wT : Mine.St → Option (Bool × Mine.St) := tst (bin (getF 17) (lit (V.int 0 0)) gtV)
noncomputable abbrev wB : Mine.St → Option (Fl × Mine.St) := seqF (setF 16 (bin (unH (newF (consF (bin (lit (V.int 0 65)) (bin (getF 17) (lit (V.int 0 16)) modV) addV) fun σ => some ([], σ)) O.list) bytesV) (getF 16) addV))
    (seqF (augF 17 (lit (V.int 0 16)) divV) fun σ => some (Fl.next, σ))
theorem l7_eq : l7S.1 = whileS 100 wT wB := by unfold l7S; rfl
theorem w_test {m : Int} : wT { v := vR pl f1 f2 f3 nu wo (some (.int 0 m)) go we ot ah be, h := h } = some (decide (0 < m), { v := vR pl f1 f2 f3 nu wo (some (.int 0 m)) go we ot ah be, h := h }) := rfl
theorem bytes_one {x : Int} (h0 : 0 ≤ x) (h1 : x < 256) : bytesV (h ++ [.list [.int 0 x]]) (.ref h.length) = some (.bytes [x.toNat.toUInt8]) := by
  unfold bytesV
  dsimp only
  have e : (h ++ [O.list [.int 0 x]])[h.length]? = some (.list [.int 0 x]) := by simp
  rw [e]
  dsimp only [intsOf]
  rw [if_pos rfl]
  dsimp only
  rw [if_pos ⟨by simp [h0, h1], by simp⟩]
  rfl
theorem w_body {m : Int} {w : List UInt8} (h0 : 0 ≤ m) (hw : w.length ≤ 9000) : wB { v := vR pl f1 f2 f3 nu (some (.bytes w)) (some (.int 0 m)) go we ot ah be, h := h } =
    some (.next, { v := vR pl f1 f2 f3 nu (some (.bytes ((65 + m % 16).toNat.toUInt8 :: w))) (some (.int 0 (m / 16))) go we ot ah be, h := h ++ [.list [.int 0 (65 + m % 16)]] }) := by
  have hd : 0 ≤ 65 + m % 16 ∧ 65 + m % 16 < 256 := by omega
  refine (seq_of (set_of (bin_of (unH_of (new_of (l := [.int 0 (65 + m % 16)]) (σ₁ := { v := vR pl f1 f2 f3 nu (some (.bytes w)) (some (.int 0 m)) go we ot ah be, h := h }) rfl (by simp)) (bytes_one hd.1 hd.2)) (b := .bytes w) (σ₂ := { v := vR pl f1 f2 f3 nu (some (.bytes w)) (some (.int 0 m)) go we ot ah be, h := h ++ [.list [.int 0 (65 + m % 16)]] }) rfl (v := .bytes ((65 + m % 16).toNat.toUInt8 :: w)) (by
    dsimp only [addV]
    rw [if_pos (by simp; omega)]
    rfl)))).trans ?_
  rfl
theorem w_loop : ∀ (n : Nat) {m : Int} {w : List UInt8} {h : List O} {fuel : Nat}, 0 ≤ m → m < 16 ^ n → n < fuel → w.length + n ≤ 9000 →
    ∃ g, whileF wT wB fuel { v := vR pl f1 f2 f3 nu (some (.bytes w)) (some (.int 0 m)) go we ot ah be, h := h } = some { v := vR pl f1 f2 f3 nu (some (.bytes (hexL n m ++ w))) (some (.int 0 0)) go we ot ah be, h := h ++ g }
  | 0, m, w, h, fuel + 1, h0, h1, _, _ => by
    have : m = 0 := by simp at h1; omega
    subst this
    refine ⟨[], ?_⟩
    unfold whileF
    rw [w_test]
    simp [hexL]
  | n + 1, m, w, h, fuel + 1, h0, h1, hf, hw => by
    unfold whileF
    rw [w_test]
    by_cases hm : 0 < m
    · rw [decide_eq_true hm]
      dsimp only
      rw [w_body h0 (by omega)]
      dsimp only
      have h16 : m / 16 < 16 ^ n := by
        rw [Int.pow_succ] at h1
        omega
      obtain ⟨g, e⟩ := w_loop n (m := m / 16) (w := (65 + m % 16).toNat.toUInt8 :: w) (h := h ++ [.list [.int 0 (65 + m % 16)]]) (fuel := fuel) (by omega) h16 (by omega) (by simp; omega)
      refine ⟨[.list [.int 0 (65 + m % 16)]] ++ g, ?_⟩
      rw [e]
      have : hexL (n + 1) m = hexL n (m / 16) ++ [(65 + m % 16).toNat.toUInt8] := by
        conv => lhs; unfold hexL
        rw [if_neg (by omega)]
      rw [this]
      simp
    · have : m = 0 := by omega
      subst this
      refine ⟨[], ?_⟩
      simp [hexL]
-- Int2AP
noncomputable def apL : List UInt8 := [65, 66, 67, 68, 69, 70, 71, 72, 73, 74, 75, 76, 77, 78, 79, 80]
noncomputable def vI (num val mo : Option V) : List (Option V) := [num, val, some (.bytes apL), mo]
noncomputable abbrev iT : Mine.St → Option (Bool × Mine.St) := tst (getF 0)
noncomputable abbrev iB : Mine.St → Option (Fl × Mine.St) := seqF (unpF [0, 3] (dmF (getF 0) (lit (V.int 0 16)))) (seqF (setF 1 (bin (sliceBF (getF 2) (parts (partF (getF 3)) (partF (bin (getF 3) (lit (V.int 0 1)) addV)) fun σ => some (none, σ))) (getF 1) addV)) fun σ => some (Fl.next, σ))
theorem ap_at : ∀ r : Nat, r < 16 → (apL.drop r).take 1 = [((65 + (r : Int)) % 256).toNat.toUInt8] := by decide +kernel
theorem i_test {m : Int} {val mo : Option V} : iT { v := vI (some (.int 0 m)) val mo, h := h } = some (decide (m ≠ 0), { v := vI (some (.int 0 m)) val mo, h := h }) := rfl
theorem i_body {m : Int} {w : List UInt8} {mo : Option V} (h0 : 0 ≤ m) (h1 : m < 1000000000) (hw : w.length ≤ 9000) : iB { v := vI (some (.int 0 m)) (some (.bytes w)) mo, h := h } =
    some (.next, { v := vI (some (.int 0 (m / 16))) (some (.bytes ((65 + m % 16).toNat.toUInt8 :: w))) (some (.int 0 (m % 16))), h := h ++ [.tup [.int 0 (m / 16), .int 0 (m % 16)]] }) := by
  have e1 : dmF (getF 0) (lit (V.int 0 16)) { v := vI (some (.int 0 m)) (some (.bytes w)) mo, h := h } = some (.ref h.length, { v := vI (some (.int 0 m)) (some (.bytes w)) mo, h := h ++ [.tup [.int 0 (m / 16), .int 0 (m % 16)]] }) := by
    have : dmF (getF 0) (lit (V.int 0 16)) { v := vI (some (.int 0 m)) (some (.bytes w)) mo, h := h } = if (0 : Int) = 0 ∧ (0 : Int) = 0 ∧ (0 : Int) < 16 ∧ (16 : Int) < 1000000 ∧ -1000000 < m ∧ m < 1000000000 then some (.ref h.length, { v := vI (some (.int 0 m)) (some (.bytes w)) mo, h := h ++ [.tup [.int 0 (m.fdiv 16), .int 0 (m.fmod 16)]] }) else none := rfl
    rw [this, if_pos (by omega), Int.fdiv_eq_ediv_of_nonneg _ (by omega), Int.fmod_eq_emod_of_nonneg _ (by omega)]
  have e2 : unpF [0, 3] (dmF (getF 0) (lit (V.int 0 16))) { v := vI (some (.int 0 m)) (some (.bytes w)) mo, h := h } = some (.next, { v := vI (some (.int 0 (m / 16))) (some (.bytes w)) (some (.int 0 (m % 16))), h := h ++ [.tup [.int 0 (m / 16), .int 0 (m % 16)]] }) := by
    unfold unpF seqAt
    rw [e1]
    have : (h ++ [O.tup [.int 0 (m / 16), .int 0 (m % 16)]])[h.length]? = some (.tup [.int 0 (m / 16), .int 0 (m % 16)]) := by simp
    dsimp only
    rw [this]
    rfl
  have hr : m % 16 = ((m % 16).toNat : Int) := by omega
  have hap := ap_at (m % 16).toNat (by omega)
  have e3 : sliceBF (getF 2) (parts (partF (getF 3)) (partF (bin (getF 3) (lit (V.int 0 1)) addV)) fun σ => some (none, σ)) { v := vI (some (.int 0 (m / 16))) (some (.bytes w)) (some (.int 0 (m % 16))), h := h ++ [.tup [.int 0 (m / 16), .int 0 (m % 16)]] } =
      some (.bytes [(65 + m % 16).toNat.toUInt8], { v := vI (some (.int 0 (m / 16))) (some (.bytes w)) (some (.int 0 (m % 16))), h := h ++ [.tup [.int 0 (m / 16), .int 0 (m % 16)]] }) := by
    have : sliceBF (getF 2) (parts (partF (getF 3)) (partF (bin (getF 3) (lit (V.int 0 1)) addV)) fun σ => some (none, σ)) { v := vI (some (.int 0 (m / 16))) (some (.bytes w)) (some (.int 0 (m % 16))), h := h ++ [.tup [.int 0 (m / 16), .int 0 (m % 16)]] } =
      if 0 ≤ m % 16 ∧ m % 16 ≤ m % 16 + 1 ∧ m % 16 + 1 ≤ (apL.length : Int) ∧ apL.length ≤ 1000 then some (.bytes ((apL.drop (m % 16).toNat).take ((m % 16 + 1).toNat - (m % 16).toNat)), { v := vI (some (.int 0 (m / 16))) (some (.bytes w)) (some (.int 0 (m % 16))), h := h ++ [.tup [.int 0 (m / 16), .int 0 (m % 16)]] }) else none := rfl
    rw [this, if_pos (by simp [apL]; omega), show (m % 16 + 1).toNat - (m % 16).toNat = 1 by omega, hap]
    rw [show (65 + ((m % 16).toNat : Int)) % 256 = 65 + m % 16 by omega]
  refine (seq_of e2).trans ((seq_of (set_of (bin_of e3 (b := .bytes w) rfl (v := .bytes ((65 + m % 16).toNat.toUInt8 :: w)) (by
    dsimp only [addV]
    rw [if_pos (by simp; omega)]
    rfl)))).trans ?_)
  rfl
theorem i_loop : ∀ (n : Nat) {m : Int} {w : List UInt8} {mo : Option V} {h : List O} {fuel : Nat}, 0 ≤ m → m < 16 ^ n → m < 1000000000 → n < fuel → w.length + n ≤ 9000 →
    ∃ g mo', whileF iT iB fuel { v := vI (some (.int 0 m)) (some (.bytes w)) mo, h := h } = some { v := vI (some (.int 0 0)) (some (.bytes (hexL n m ++ w))) mo', h := h ++ g }
  | 0, m, w, mo, h, fuel + 1, h0, h1, _, _, _ => by
    have : m = 0 := by simp at h1; omega
    subst this
    refine ⟨[], mo, ?_⟩
    unfold whileF
    rw [i_test]
    simp [hexL]
  | n + 1, m, w, mo, h, fuel + 1, h0, h1, h2, hf, hw => by
    unfold whileF
    rw [i_test]
    by_cases hm : m ≠ 0
    · rw [decide_eq_true hm]
      dsimp only
      rw [i_body h0 h2 (by omega)]
      dsimp only
      have h16 : m / 16 < 16 ^ n := by
        rw [Int.pow_succ] at h1
        omega
      obtain ⟨g, mo', e⟩ := i_loop n (m := m / 16) (w := (65 + m % 16).toNat.toUInt8 :: w) (mo := some (.int 0 (m % 16))) (h := h ++ [.tup [.int 0 (m / 16), .int 0 (m % 16)]]) (fuel := fuel) (by omega) h16 (by omega) (by omega) (by simp; omega)
      refine ⟨[.tup [.int 0 (m / 16), .int 0 (m % 16)]] ++ g, mo', ?_⟩
      rw [e]
      have : hexL (n + 1) m = hexL n (m / 16) ++ [(65 + m % 16).toNat.toUInt8] := by
        conv => lhs; unfold hexL
        rw [if_neg (by omega)]
      rw [this]
      simp
    · have : m = 0 := by omega
      subst this
      refine ⟨[], mo, ?_⟩
      simp [hexL]
theorem int2_run {k : Int} (h1 : -268435456 < k) (h2 : k < 268435456) : ∃ g mo, int2S.1 { v := [some (.int 0 k), none, none, none], h := [] } = some (.ret (.bytes (hexL 7 (if k < 0 then -k else k))), { v := vI (some (.int 0 0)) (some (.bytes (hexL 7 (if k < 0 then -k else k)))) mo, h := g }) := by
  have hb : 0 ≤ (if k < 0 then -k else k) ∧ (if k < 0 then -k else k) < 268435456 := by split <;> omega
  obtain ⟨g, mo, e⟩ := i_loop 7 (m := if k < 0 then -k else k) (w := []) (mo := none) (h := []) (fuel := 100) hb.1 (by have := hb.2; simpa using this) (by omega) (by omega) (by simp)
  refine ⟨g, mo, ?_⟩
  unfold int2S
  dsimp only
  refine (seq_of (σ₁ := { v := [some (.int 0 k), some (.bytes []), none, none], h := [] }) rfl).trans ?_
  refine (seq_of (σ₁ := { v := [some (.int 0 k), some (.bytes []), some (.bytes apL), none], h := [] }) rfl).trans ?_
  refine (seq_of (σ₁ := { v := vI (some (.int 0 (if k < 0 then -k else k))) (some (.bytes [])) none, h := [] }) rfl).trans ?_
  refine (seq_of (σ₁ := { v := vI (some (.int 0 0)) (some (.bytes (hexL 7 (if k < 0 then -k else k)))) mo, h := g }) ?_).trans ?_
  · show whileS 100 iT iB _ = _
    unfold whileS
    rw [e]
    simp
  · rfl
end
end Mine

-- T1a
namespace Mine
noncomputable def prSt (N : Int) : Mine.St := { v := [some (.ref 0), none, none, some (.int 0 N), none, none, none, none, none, none, none, none, none, none], h := [intL fibN] }
/-- what a product's rest makes of a number -/
noncomputable def prOut (N : Int) : Option (Bool × List Int) := match prS.1 (prSt N) with
  | some (.ret (V.ref j), σ₂) => match σ₂.h[0]?, σ₂.h[j]? with
    | some o0, some (O.tup [V.bool b, V.ref i]) => match σ₂.h[i]? with
      | some (O.list l) => if o0 = intL fibN ∧ 1 ≤ j ∧ 1 ≤ i ∧ i ≠ j ∧ l.all flatV = true then (intsOf l).map fun ls => (b, ls) else none
      | _ => none
    | _, _ => none
  | _ => none
noncomputable def okP (x : Int × List Int) : Bool := prOut x.1 == some (true, x.2)
noncomputable def places24 : List (List Int) := [[3, 5], [3, 5, 7], [3, 5, 7, 9], [], [3], [2, 5], [5], [3, 7], [2, 4], [4], [3, 6], [2, 5, 7], [5, 7], [2], [2, 4, 7], [4, 7], [2, 4, 6], [4, 6], [2, 5, 7, 9], [2, 7], [2, 6], [2, 4, 7, 9], [2, 4, 6, 9], [2, 4, 6, 8]]
noncomputable def tabP0 : List (Int × List Int) := [(0, []), (3, [4]), (5, [5]), (8, [6]), (11, [4, 6]), (13, [7]), (16, [4, 7]), (18, [5, 7]), (21, [8]), (24, [4, 8]), (26, [5, 8]), (29, [6, 8]), (32, [4, 6, 8]), (34, [9]), (37, [4, 9]), (39, [5, 9]), (40, [2, 5, 9]), (42, [6, 9]), (45, [4, 6, 9]), (47, [7, 9]), (50, [4, 7, 9]), (52, [5, 7, 9]), (55, [10]), (58, [4, 10]), (60, [5, 10]), (63, [6, 10])]
noncomputable def tabP1 : List (Int × List Int) := [(65, [3, 6, 10]), (68, [7, 10]), (73, [5, 7, 10]), (76, [8, 10]), (81, [5, 8, 10]), (84, [6, 8, 10]), (87, [4, 6, 8, 10]), (94, [5, 11]), (97, [6, 11]), (102, [7, 11]), (105, [4, 7, 11]), (110, [8, 11]), (116, [2, 5, 8, 11]), (118, [6, 8, 11]), (121, [4, 6, 8, 11]), (123, [9, 11]), (126, [4, 9, 11]), (131, [6, 9, 11]), (134, [4, 6, 9, 11]), (136, [7, 9, 11]), (139, [4, 7, 9, 11]), (141, [5, 7, 9, 11]), (152, [6, 12]), (157, [7, 12]), (163, [2, 5, 7, 12]), (165, [8, 12])]
noncomputable def tabP2 : List (Int × List Int) := [(168, [4, 8, 12]), (170, [5, 8, 12]), (178, [9, 12]), (181, [4, 9, 12]), (188, [3, 6, 9, 12]), (189, [4, 6, 9, 12]), (191, [7, 9, 12]), (194, [4, 7, 9, 12]), (196, [5, 7, 9, 12]), (199, [10, 12]), (204, [5, 10, 12]), (212, [7, 10, 12]), (217, [5, 7, 10, 12]), (220, [8, 10, 12]), (225, [5, 8, 10, 12]), (228, [6, 8, 10, 12]), (236, [4, 13]), (246, [7, 13]), (252, [2, 5, 7, 13]), (262, [6, 8, 13]), (264, [3, 6, 8, 13]), (272, [5, 9, 13]), (275, [6, 9, 13]), (291, [4, 10, 13]), (293, [5, 10, 13]), (304, [4, 7, 10, 13])]
noncomputable def tabP3 : List (Int × List Int) := [(306, [5, 7, 10, 13]), (314, [5, 8, 10, 13]), (315, [2, 5, 8, 10, 13]), (317, [6, 8, 10, 13]), (330, [6, 11, 13]), (336, [2, 7, 11, 13]), (351, [6, 8, 11, 13]), (354, [4, 6, 8, 11, 13]), (356, [9, 11, 13]), (364, [6, 9, 11, 13]), (369, [7, 9, 11, 13]), (382, [5, 14]), (388, [4, 6, 14]), (393, [4, 7, 14]), (398, [8, 14]), (408, [3, 6, 8, 14]), (424, [7, 9, 14]), (427, [4, 7, 9, 14]), (438, [2, 5, 10, 14]), (440, [6, 10, 14]), (445, [7, 10, 14]), (448, [4, 7, 10, 14]), (456, [4, 8, 10, 14]), (471, [5, 11, 14]), (472, [2, 5, 11, 14]), (474, [6, 11, 14])]
noncomputable def tabP4 : List (Int × List Int) := [(485, [2, 5, 7, 11, 14]), (492, [5, 8, 11, 14]), (495, [6, 8, 11, 14]), (503, [4, 9, 11, 14]), (508, [6, 9, 11, 14]), (510, [3, 6, 9, 11, 14]), (513, [7, 9, 11, 14]), (524, [4, 12, 14]), (534, [7, 12, 14]), (544, [3, 8, 12, 14]), (545, [4, 8, 12, 14]), (568, [7, 9, 12, 14]), (573, [5, 7, 9, 12, 14]), (576, [10, 12, 14]), (589, [7, 10, 12, 14]), (597, [8, 10, 12, 14]), (605, [6, 8, 10, 12, 14]), (618, [6, 15]), (628, [5, 7, 15]), (634, [4, 8, 15]), (636, [5, 8, 15]), (644, [9, 15]), (660, [4, 7, 9, 15]), (663, [2, 5, 7, 9, 15]), (684, [2, 5, 7, 10, 15]), (686, [8, 10, 15])]
noncomputable def tabP5 : List (Int × List Int) := [(691, [5, 8, 10, 15]), (702, [4, 11, 15]), (709, [3, 6, 11, 15]), (712, [7, 11, 15]), (720, [8, 11, 15]), (728, [6, 8, 11, 15]), (736, [4, 9, 11, 15]), (738, [5, 9, 11, 15]), (764, [3, 6, 12, 15]), (767, [7, 12, 15]), (785, [3, 6, 8, 12, 15]), (796, [6, 9, 12, 15]), (814, [5, 10, 12, 15]), (817, [6, 10, 12, 15]), (825, [4, 7, 10, 12, 15]), (848, [5, 13, 15]), (880, [4, 9, 13, 15]), (912, [2, 7, 10, 13, 15]), (951, [2, 5, 7, 11, 13, 15]), (1026, [5, 9, 16]), (1053, [4, 6, 10, 16]), (1092, [4, 7, 11, 16]), (1107, [3, 6, 8, 11, 16]), (1136, [5, 12, 16]), (1147, [4, 7, 12, 16]), (1178, [7, 9, 12, 16])]
noncomputable def tabP6 : List (Int × List Int) := [(1194, [6, 10, 12, 16]), (1268, [2, 7, 9, 13, 16]), (1270, [4, 7, 9, 13, 16]), (1281, [2, 5, 10, 13, 16]), (1317, [6, 11, 13, 16]), (1335, [5, 8, 11, 13, 16]), (1404, [2, 5, 9, 14, 16]), (1422, [4, 10, 14, 16]), (1456, [4, 11, 14, 16]), (1464, [4, 6, 11, 14, 16]), (1476, [3, 8, 11, 14, 16]), (1539, [3, 6, 8, 12, 14, 16]), (1621, [4, 8, 17]), (1660, [6, 10, 17]), (1681, [6, 8, 10, 17]), (1704, [5, 7, 11, 17]), (1767, [5, 8, 12, 17]), (1781, [2, 5, 9, 12, 17]), (1791, [4, 7, 9, 12, 17]), (1838, [6, 13, 17]), (1856, [5, 8, 13, 17]), (1906, [8, 10, 13, 17]), (1932, [7, 11, 13, 17]), (1972, [2, 5, 7, 9, 11, 13, 17]), (1977, [4, 14, 17]), (2045, [4, 7, 10, 14, 17])]
noncomputable def tabP7 : List (Int × List Int) := [(2052, [3, 8, 10, 14, 17]), (2055, [5, 8, 10, 14, 17]), (2073, [3, 6, 11, 14, 17]), (2131, [7, 12, 14, 17]), (2160, [6, 9, 12, 14, 17]), (2189, [4, 7, 10, 12, 14, 17]), (2270, [6, 10, 15, 17]), (2272, [3, 6, 10, 15, 17]), (2301, [5, 11, 15, 17]), (2356, [5, 12, 15, 17]), (2388, [4, 9, 12, 15, 17]), (2475, [2, 9, 13, 15, 17]), (3441, [2, 7, 13, 15, 18]), (3810, [2, 5, 13, 16, 18]), (3951, [4, 14, 16, 18]), (4005, [3, 10, 14, 16, 18]), (4784, [2, 5, 8, 10, 12, 14, 19]), (5297, [2, 5, 9, 11, 16, 19]), (5493, [4, 11, 13, 16, 19]), (5568, [3, 8, 14, 16, 19]), (5865, [4, 6, 8, 10, 17, 19]), (6082, [4, 7, 10, 13, 17, 19]), (6165, [3, 6, 14, 17, 19]), (6307, [6, 12, 14, 17, 19]), (6393, [5, 15, 17, 19]), (6480, [4, 11, 15, 17, 19])]
theorem ok_tabP0 : tabP0.all okP = true := by decide +kernel
theorem ok_tabP1 : tabP1.all okP = true := by decide +kernel
theorem ok_tabP2 : tabP2.all okP = true := by decide +kernel
theorem ok_tabP3 : tabP3.all okP = true := by decide +kernel
theorem ok_tabP4 : tabP4.all okP = true := by decide +kernel
theorem ok_tabP5 : tabP5.all okP = true := by decide +kernel
theorem ok_tabP6 : tabP6.all okP = true := by decide +kernel
theorem ok_tabP7 : tabP7.all okP = true := by decide +kernel
noncomputable def tabP : List (Int × List Int) := tabP0 ++ tabP1 ++ tabP2 ++ tabP3 ++ tabP4 ++ tabP5 ++ tabP6 ++ tabP7
theorem ok_tabP : ∀ x ∈ tabP, okP x = true := by
  intro x hx
  unfold tabP at hx
  simp only [List.mem_append] at hx
  rcases hx with (((((((hx | hx) | hx) | hx) | hx) | hx) | hx) | hx)
  · exact List.all_eq_true.mp ok_tabP0 x hx
  · exact List.all_eq_true.mp ok_tabP1 x hx
  · exact List.all_eq_true.mp ok_tabP2 x hx
  · exact List.all_eq_true.mp ok_tabP3 x hx
  · exact List.all_eq_true.mp ok_tabP4 x hx
  · exact List.all_eq_true.mp ok_tabP5 x hx
  · exact List.all_eq_true.mp ok_tabP6 x hx
  · exact List.all_eq_true.mp ok_tabP7 x hx
/-- a pair's sum is told by a row, and so is the sum one place on -/
noncomputable def okQ (p q : List Int) : Bool := match tabP.lookup (conv2 p q).sum with
  | some ls => (ls.map fibAt).sum == (conv2 p q).sum && (ls.map fun t => fibAt (t + 1)).sum == (p.flatMap fun i => q.map fun j => fibAt (i + j + 1)).sum && ls.all (fun t => decide (0 ≤ t ∧ t ≤ 20)) && decide (ls.length < 20)
  | none => false
theorem ok_pairs : places24.all (fun p => places24.all fun q => okQ p q) = true := by decide +kernel
end Mine

-- T2a
namespace Mine
/-- the places that a turn tells of a cell's remainder -/
noncomputable def tmOut (r : Int) : Option (List Int) := match tmS.1 { v := vT r, h := [] } with
  | some (.next, σ₂) => match σ₂.v[11]?, σ₂.v[0]?, σ₂.v[1]?, σ₂.v[2]? with
    | some (some (V.ref j)), some (some (V.opq 0)), some (some (V.opq 1)), some (some (V.opq 2)) => match σ₂.h[j]? with
      | some (O.list l) => if l.all isInt0 = true then intsOf l else none
      | _ => none
    | _, _, _, _ => none
  | _ => none
noncomputable def okR (r : Int) : Bool := match tmOut r with
  | some p => places24.contains p
  | none => false
noncomputable def span (a : Int) : Nat → List Int
  | 0 => []
  | n + 1 => a :: span (a + 1) n
theorem mem_span : ∀ {n : Nat} {a x : Int}, a ≤ x → x < a + n → x ∈ span a n
  | 0, a, x, h1, h2 => by simp at h2; omega
  | n + 1, a, x, h1, h2 => by
    by_cases h : x = a
    · subst h; exact .head _
    · exact .tail _ (mem_span (by omega) (by push_cast at h2; omega))
theorem okR0 : (span 0 30).all okR = true := by decide +kernel
theorem okR1 : (span 30 30).all okR = true := by decide +kernel
theorem okR2 : (span 60 30).all okR = true := by decide +kernel
theorem okR3 : (span 90 30).all okR = true := by decide +kernel
theorem okR4 : (span 120 30).all okR = true := by decide +kernel
theorem okR5 : (span 150 30).all okR = true := by decide +kernel
theorem okR6 : (span 180 30).all okR = true := by decide +kernel
theorem okR7 : (span 210 30).all okR = true := by decide +kernel
theorem okR8 : (span 240 30).all okR = true := by decide +kernel
theorem okR9 : (span 270 30).all okR = true := by decide +kernel
theorem okR10 : (span 300 30).all okR = true := by decide +kernel
theorem okR11 : (span 330 30).all okR = true := by decide +kernel
theorem okR12 : (span 360 30).all okR = true := by decide +kernel
theorem okR13 : (span 390 30).all okR = true := by decide +kernel
theorem okR14 : (span 420 30).all okR = true := by decide +kernel
theorem okR15 : (span 450 30).all okR = true := by decide +kernel
theorem okR16 : (span 480 30).all okR = true := by decide +kernel
theorem okR17 : (span 510 30).all okR = true := by decide +kernel
theorem okR18 : (span 540 30).all okR = true := by decide +kernel
theorem okR19 : (span 570 30).all okR = true := by decide +kernel
theorem okR20 : (span 600 30).all okR = true := by decide +kernel
theorem okR21 : (span 630 30).all okR = true := by decide +kernel
theorem okR22 : (span 660 30).all okR = true := by decide +kernel
theorem okR23 : (span 690 30).all okR = true := by decide +kernel
theorem okR_all {r : Int} (h0 : 0 ≤ r) (h1 : r < 720) : okR r = true := by
  have h : r < 30 ∨ r < 60 ∨ r < 90 ∨ r < 120 ∨ r < 150 ∨ r < 180 ∨ r < 210 ∨ r < 240 ∨ r < 270 ∨ r < 300 ∨ r < 330 ∨ r < 360 ∨ r < 390 ∨ r < 420 ∨ r < 450 ∨ r < 480 ∨ r < 510 ∨ r < 540 ∨ r < 570 ∨ r < 600 ∨ r < 630 ∨ r < 660 ∨ r < 690 ∨ r < 720 := by omega
  by_cases c0 : r < 30
  · exact List.all_eq_true.mp okR0 r (mem_span (by omega) (by omega))
  by_cases c1 : r < 60
  · exact List.all_eq_true.mp okR1 r (mem_span (by omega) (by omega))
  by_cases c2 : r < 90
  · exact List.all_eq_true.mp okR2 r (mem_span (by omega) (by omega))
  by_cases c3 : r < 120
  · exact List.all_eq_true.mp okR3 r (mem_span (by omega) (by omega))
  by_cases c4 : r < 150
  · exact List.all_eq_true.mp okR4 r (mem_span (by omega) (by omega))
  by_cases c5 : r < 180
  · exact List.all_eq_true.mp okR5 r (mem_span (by omega) (by omega))
  by_cases c6 : r < 210
  · exact List.all_eq_true.mp okR6 r (mem_span (by omega) (by omega))
  by_cases c7 : r < 240
  · exact List.all_eq_true.mp okR7 r (mem_span (by omega) (by omega))
  by_cases c8 : r < 270
  · exact List.all_eq_true.mp okR8 r (mem_span (by omega) (by omega))
  by_cases c9 : r < 300
  · exact List.all_eq_true.mp okR9 r (mem_span (by omega) (by omega))
  by_cases c10 : r < 330
  · exact List.all_eq_true.mp okR10 r (mem_span (by omega) (by omega))
  by_cases c11 : r < 360
  · exact List.all_eq_true.mp okR11 r (mem_span (by omega) (by omega))
  by_cases c12 : r < 390
  · exact List.all_eq_true.mp okR12 r (mem_span (by omega) (by omega))
  by_cases c13 : r < 420
  · exact List.all_eq_true.mp okR13 r (mem_span (by omega) (by omega))
  by_cases c14 : r < 450
  · exact List.all_eq_true.mp okR14 r (mem_span (by omega) (by omega))
  by_cases c15 : r < 480
  · exact List.all_eq_true.mp okR15 r (mem_span (by omega) (by omega))
  by_cases c16 : r < 510
  · exact List.all_eq_true.mp okR16 r (mem_span (by omega) (by omega))
  by_cases c17 : r < 540
  · exact List.all_eq_true.mp okR17 r (mem_span (by omega) (by omega))
  by_cases c18 : r < 570
  · exact List.all_eq_true.mp okR18 r (mem_span (by omega) (by omega))
  by_cases c19 : r < 600
  · exact List.all_eq_true.mp okR19 r (mem_span (by omega) (by omega))
  by_cases c20 : r < 630
  · exact List.all_eq_true.mp okR20 r (mem_span (by omega) (by omega))
  by_cases c21 : r < 660
  · exact List.all_eq_true.mp okR21 r (mem_span (by omega) (by omega))
  by_cases c22 : r < 690
  · exact List.all_eq_true.mp okR22 r (mem_span (by omega) (by omega))
  by_cases c23 : r < 720
  · exact List.all_eq_true.mp okR23 r (mem_span (by omega) (by omega))
  omega
end Mine

-- Z1
namespace Mine
-- what each statement's map is
theorem l6_eq : l6S.1 = setF 17 (unH (compF 23 3 (iterF (getF 12)) fun j src σ => forF 23 (inF (iterF (getF 13)) (fun j src σ => forF 24 (inF (iterF (getF 14)) (fun j src σ => forF 25 (putF (binH (getF 15) (bin (bin (getF 23) (getF 24) addV) (getF 25) addV) itemV) j) 100 src σ) j) 100 src σ) j) 100 src σ) sumV) := by unfold l6S; rfl
theorem l10_eq : l10S.1 = setF 21 (unH (compF 23 2 (iterF (getF 11)) fun j src σ => forF 23 (inF (iterF (getF 14)) (fun j src σ => forF 24 (putF (binH (getF 15) (bin (getF 23) (getF 24) addV) itemV) j) 100 src σ) j) 100 src σ) sumV) := by unfold l10S; rfl
theorem l11_eq : l11S.1 = setF 22 (unH (compF 23 2 (iterF (getF 12)) fun j src σ => forF 23 (inF (iterF (getF 20)) (fun j src σ => forF 24 (putF (binH (getF 15) (bin (getF 23) (getF 24) addV) itemV) j) 100 src σ) j) 100 src σ) sumV) := by unfold l11S; rfl
theorem p0_eq : p0S.1 = setF 3 (unH (compF 14 2 (iterF (getF 1)) fun j src σ => forF 14 (inF (iterF (getF 2)) (fun j src σ => forF 15 (putF (binH (getF 0) (bin (getF 14) (getF 15) addV) itemV) j) 100 src σ) j) 100 src σ) sumV) := by unfold p0S; rfl
theorem tc_eq (ns : List Int) : (tcS ns).1 = setF 4 (bin (binH (getF 1) (getF 3) itemV) (unH (compF 23 1 (iterF (sliceOF ns (getF 0) (parts (partF (getF 3)) (partF (lit (V.int 0 63))) (partF (lit (V.int 0 3)))))) fun j src σ => forF 23 (putF (bin (getF 23) (bin (lit (V.int 0 2)) (lit (V.int 0 20)) powV) modV) j) 100 src σ) sumV) addV) := by unfold tcS; rfl
-- the script's picks
noncomputable def pickI (l : List Int) (lo hi st : Option Int) : List Int :=
  (sliceRange (sliceBounds lo hi st l.length).1 (sliceBounds lo hi st l.length).2.1 (sliceBounds lo hi st l.length).2.2).filterMap (l[·]?)
theorem pick_map (l : List Int) (lo hi st : Option Int) : pickV (l.map (V.int 0 ·)) lo hi st = (pickI l lo hi st).map (V.int 0 ·) := by
  unfold pickV pickI
  rw [List.length_map, List.map_filterMap]
  congr 1
  funext k
  rw [List.getElem?_map]
theorem pick_len (l : List Int) (k : Nat) : (pickI l (some k) (some 63) (some 3)).length < 100 := by
  unfold pickI
  refine Nat.lt_of_le_of_lt (List.length_filterMap_le _ _) ?_
  have e2 : (sliceBounds (some (k : Int)) (some 63) (some 3) l.length).2.1 ≤ 63 := by
    simp [sliceBounds]
    omega
  have e1 : 0 ≤ (sliceBounds (some (k : Int)) (some 63) (some 3) l.length).1 := by
    simp [sliceBounds]
    omega
  have e3 : (sliceBounds (some (k : Int)) (some 63) (some 3) l.length).2.2 = 3 := rfl
  rw [e3]
  have h := sliceRange_len_le (sliceBounds (some (k : Int)) (some 63) (some 3) l.length).1 (sliceBounds (some (k : Int)) (some 63) (some 3) l.length).2.1 3 (by omega)
  rw [if_pos (by omega)] at h
  omega
end Mine

-- Z2
namespace Mine
noncomputable def spanZ (a : Int) : Nat → List Int
  | 0 => []
  | n + 1 => a :: spanZ (a + 1) n
theorem mem_spanZ : ∀ {n : Nat} {a x : Int}, a ≤ x → x < a + n → x ∈ spanZ a n
  | 0, a, x, h1, h2 => by simp at h2; omega
  | n + 1, a, x, h1, h2 => by
    by_cases h : x = a
    · subst h; exact .head _
    · exact .tail _ (mem_spanZ (by omega) (by push_cast at h2; omega))
theorem fib_rec_all : (spanZ 0 40).all (fun t => fibAt (t + 2) == fibAt (t + 1) + fibAt t) = true := by decide +kernel
theorem fib_rec {t : Int} (h0 : 0 ≤ t) (h1 : t < 40) : fibAt (t + 2) = fibAt (t + 1) + fibAt t := by
  have := List.all_eq_true.mp fib_rec_all t (mem_spanZ h0 (by omega))
  simpa using this
theorem fib_bound_all : (spanZ 0 28).all (fun t => decide (0 ≤ fibAt t ∧ fibAt t ≤ 200000)) = true := by decide +kernel
theorem fib_bound {t : Int} (h0 : 0 ≤ t) (h1 : t < 28) : 0 ≤ fibAt t ∧ fibAt t ≤ 200000 := by
  have := List.all_eq_true.mp fib_bound_all t (mem_spanZ h0 (by omega))
  simpa using this
/-- a sum over a list -/
noncomputable def su (l : List Int) (f : Int → Int) : Int := (l.map f).sum
theorem su_nil (f : Int → Int) : su [] f = 0 := rfl
theorem su_cons (a : Int) (l : List Int) (f : Int → Int) : su (a :: l) f = f a + su l f := by simp [su]
theorem su_add (f g : Int → Int) : ∀ l : List Int, su l (fun x => f x + g x) = su l f + su l g
  | [] => rfl
  | a :: r => by rw [su_cons, su_cons, su_cons, su_add f g r]; omega
theorem su_congr {f g : Int → Int} : ∀ {l : List Int}, (∀ x ∈ l, f x = g x) → su l f = su l g
  | [], _ => rfl
  | a :: r, h => by rw [su_cons, su_cons, h a (.head _), su_congr fun x hx => h x (.tail _ hx)]
theorem su_zero : ∀ l : List Int, su l (fun _ => 0) = 0
  | [] => rfl
  | a :: r => by rw [su_cons, su_zero r]; rfl
theorem su_swap (f : Int → Int → Int) : ∀ l m : List Int, su l (fun x => su m (f x)) = su m (fun y => su l fun x => f x y)
  | [], m => by rw [su_nil]; exact (su_zero m).symm
  | a :: r, m => by
    rw [su_cons, su_swap f r m, ← su_add]
    exact su_congr fun y _ => (su_cons a r (fun x => f x y)).symm
theorem sum_flat (f : Int → List Int) : ∀ l : List Int, (l.flatMap f).sum = su l fun x => (f x).sum
  | [] => rfl
  | a :: r => by rw [List.flatMap_cons, List.sum_append, sum_flat f r, su_cons]
theorem conv2_su (p q : List Int) : (conv2 p q).sum = su p fun i => su q fun j => fibAt (i + j) := by
  unfold conv2; rw [sum_flat]; rfl
theorem conv3_su (p q r : List Int) : (conv3 p q r).sum = su p fun i => su q fun j => su r fun k => fibAt (i + j + k) := by
  unfold conv3
  rw [sum_flat]
  refine su_congr fun i _ => ?_
  rw [sum_flat]; rfl
/-- sums that agree at two places agree at all -/
theorem shift {ls p q : List Int} (hl : ∀ t ∈ ls, 0 ≤ t ∧ t ≤ 20) (hp : ∀ i ∈ p, 0 ≤ i ∧ i ≤ 9) (hq : ∀ j ∈ q, 0 ≤ j ∧ j ≤ 9) (e0 : su ls fibAt = su p fun i => su q fun j => fibAt (i + j)) (e1 : su ls (fun t => fibAt (t + 1)) = su p fun i => su q fun j => fibAt (i + j + 1)) :
    ∀ k : Nat, k ≤ 12 → (su ls (fun t => fibAt (t + k)) = su p fun i => su q fun j => fibAt (i + j + k)) ∧ (su ls (fun t => fibAt (t + k + 1)) = su p fun i => su q fun j => fibAt (i + j + k + 1))
  | 0, _ => ⟨by simpa using e0, by simpa using e1⟩
  | k + 1, hk => by
    obtain ⟨a, b⟩ := shift hl hp hq e0 e1 k (by omega)
    refine ⟨?_, ?_⟩
    · have x1 : ∀ t : Int, t + ((k + 1 : Nat) : Int) = t + k + 1 := fun t => by push_cast; omega
      simp only [x1]
      exact b
    · have x1 : ∀ t : Int, t + ((k + 1 : Nat) : Int) + 1 = t + k + 2 := fun t => by push_cast; omega
      simp only [x1]
      have y1 : su ls (fun t => fibAt (t + k + 2)) = su ls (fun t => fibAt (t + k + 1)) + su ls (fun t => fibAt (t + k)) := by
        rw [← su_add]
        exact su_congr fun t ht => fib_rec (by have := hl t ht; omega) (by have := hl t ht; omega)
      have y2 : (su p fun i => su q fun j => fibAt (i + j + k + 2)) = (su p fun i => su q fun j => fibAt (i + j + k + 1)) + su p fun i => su q fun j => fibAt (i + j + k) := by
        rw [← su_add]
        refine su_congr fun i hi => ?_
        rw [← su_add]
        exact su_congr fun j hj => fib_rec (by have := hp i hi; have := hq j hj; omega) (by have := hp i hi; have := hq j hj; omega)
      rw [y1, y2, a, b]
theorem one_way {ls p q r : List Int} (hl : ∀ t ∈ ls, 0 ≤ t ∧ t ≤ 20) (hp : ∀ i ∈ p, 0 ≤ i ∧ i ≤ 9) (hq : ∀ j ∈ q, 0 ≤ j ∧ j ≤ 9) (hr : ∀ k ∈ r, 0 ≤ k ∧ k ≤ 9) (e0 : su ls fibAt = su p fun i => su q fun j => fibAt (i + j)) (e1 : su ls (fun t => fibAt (t + 1)) = su p fun i => su q fun j => fibAt (i + j + 1)) :
    (conv2 ls r).sum = (conv3 p q r).sum := by
  rw [conv2_su, conv3_su, su_swap]
  have : ∀ k ∈ r, su ls (fun x => fibAt (x + k)) = su p fun i => su q fun j => fibAt (i + j + k) := fun k hk => by
    obtain ⟨n, rfl⟩ := Int.eq_ofNat_of_zero_le (hr k hk).1
    exact (shift hl hp hq e0 e1 n (by have := (hr _ hk).2; omega)).1
  rw [su_congr this, su_swap]
  refine su_congr fun i _ => ?_
  rw [su_swap]
theorem other_way {ls p q r : List Int} (hl : ∀ t ∈ ls, 0 ≤ t ∧ t ≤ 20) (hp : ∀ i ∈ p, 0 ≤ i ∧ i ≤ 9) (hq : ∀ j ∈ q, 0 ≤ j ∧ j ≤ 9) (hr : ∀ k ∈ r, 0 ≤ k ∧ k ≤ 9) (e0 : su ls fibAt = su q fun i => su r fun j => fibAt (i + j)) (e1 : su ls (fun t => fibAt (t + 1)) = su q fun i => su r fun j => fibAt (i + j + 1)) :
    (conv2 p ls).sum = (conv3 p q r).sum := by
  rw [conv2_su, conv3_su]
  refine su_congr fun i hi => ?_
  obtain ⟨n, rfl⟩ := Int.eq_ofNat_of_zero_le (hp i hi).1
  have := (shift hl hq hr e0 e1 n (by have := (hp _ hi).2; omega)).1
  calc su ls (fun j => fibAt ((n : Int) + j)) = su ls (fun t => fibAt (t + n)) := su_congr fun t _ => by rw [Int.add_comm]
    _ = _ := this
    _ = _ := su_congr fun j _ => su_congr fun k _ => by congr 1; omega
theorem su_bound {f : Int → Int} {b : Int} : ∀ {l : List Int}, (∀ x ∈ l, 0 ≤ f x ∧ f x ≤ b) → 0 ≤ su l f ∧ su l f ≤ l.length * b
  | [], _ => by simp [su]
  | a :: r, h => by
    have h1 := h a (.head _)
    have h2 := su_bound fun x hx => h x (.tail _ hx)
    rw [su_cons, List.length_cons]
    push_cast
    rw [Int.add_mul]
    omega
theorem conv3_bound {p q r : List Int} (hp : ∀ i ∈ p, 0 ≤ i ∧ i ≤ 9) (hq : ∀ j ∈ q, 0 ≤ j ∧ j ≤ 9) (hr : ∀ k ∈ r, 0 ≤ k ∧ k ≤ 9) (lp : p.length ≤ 4) (lq : q.length ≤ 4) (lr : r.length ≤ 4) : 0 ≤ (conv3 p q r).sum ∧ (conv3 p q r).sum < 268435456 := by
  rw [conv3_su]
  have h1 : ∀ i ∈ p, ∀ j ∈ q, 0 ≤ (su r fun k => fibAt (i + j + k)) ∧ (su r fun k => fibAt (i + j + k)) ≤ 800000 := fun i hi j hj => by
    have := su_bound (f := fun k => fibAt (i + j + k)) (b := 200000) (l := r) fun k hk => fib_bound (by have := hp i hi; have := hq j hj; have := hr k hk; omega) (by have := hp i hi; have := hq j hj; have := hr k hk; omega)
    have h4 : (r.length : Int) * 200000 ≤ 4 * 200000 := Int.mul_le_mul_of_nonneg_right (by omega) (by omega)
    omega
  have h2 : ∀ i ∈ p, 0 ≤ (su q fun j => su r fun k => fibAt (i + j + k)) ∧ (su q fun j => su r fun k => fibAt (i + j + k)) ≤ 3200000 := fun i hi => by
    have := su_bound (f := fun j => su r fun k => fibAt (i + j + k)) (b := 800000) (l := q) fun j hj => h1 i hi j hj
    have h4 : (q.length : Int) * 800000 ≤ 4 * 800000 := Int.mul_le_mul_of_nonneg_right (by omega) (by omega)
    omega
  have := su_bound (f := fun i => su q fun j => su r fun k => fibAt (i + j + k)) (b := 3200000) (l := p) h2
  have h4 : (p.length : Int) * 3200000 ≤ 4 * 3200000 := Int.mul_le_mul_of_nonneg_right (by omega) (by omega)
  omega
end Mine

-- Z3
namespace Mine
theorem intsOf_eq : ∀ {l : List V} {ns : List Int}, intsOf l = some ns → l = ns.map (V.int 0 ·)
  | [], ns, e => by cases e; rfl
  | .int a b :: r, ns, e => by
    unfold intsOf at e
    split at e
    · rename_i ha
      subst ha
      split at e
      · rename_i l e1
        cases e
        rw [intsOf_eq e1]; rfl
      · cases e
    · cases e
  | .str _ :: _, _, e => by cases e
  | .bool _ :: _, _, e => by cases e
  | .nil :: _, _, e => by cases e
  | .bytes _ :: _, _, e => by cases e
  | .ref _ :: _, _, e => by cases e
  | .opq _ :: _, _, e => by cases e
theorem flat_intL (l : List Int) : (l.map (V.int 0 ·)).all flatV = true := by
  rw [List.all_map]
  simp [Function.comp_def, flatV]
theorem look_mem {β : Type} {k : Int} {y : β} : ∀ {l : List (Int × β)}, l.lookup k = some y → (k, y) ∈ l := mem_lookup
/-- what a product's places are -/
structure Told (ls p q : List Int) : Prop where
  lo : ∀ t ∈ ls, 0 ≤ t ∧ t ≤ 20
  len : ls.length < 20
  e0 : su ls fibAt = su p fun i => su q fun j => fibAt (i + j)
  e1 : su ls (fun t => fibAt (t + 1)) = su p fun i => su q fun j => fibAt (i + j + 1)
/-- what a turn's places are -/
structure Small (p : List Int) : Prop where
  lo : ∀ i ∈ p, 0 ≤ i ∧ i ≤ 9
  len : p.length ≤ 4
theorem small_all : places24.all (fun p => p.all (fun i => decide (0 ≤ i ∧ i ≤ 9)) && decide (p.length ≤ 4)) = true := by decide +kernel
theorem small_of {p : List Int} (h : p ∈ places24) : Small p := by
  have := List.all_eq_true.mp small_all p h
  rw [Bool.and_eq_true] at this
  exact ⟨fun i hi => of_decide_eq_true (List.all_eq_true.mp this.1 i hi), of_decide_eq_true this.2⟩
theorem product_eq : productS.1 = seqF p0S.1 (restF prS.1) := by unfold productS; rfl
theorem rest_run {N : Int} {ls : List Int} {o1 o2 o3 : O} (h : prOut N = some (true, ls)) :
    restF prS.1 { v := [some (.ref 0), some (.ref 1), some (.ref 2), some (.int 0 N), none, none, none, none, none, none, none, none, none, none], h := [intL fibN, o1, o2, o3] } =
      some (.ret (.ref 4), { v := List.replicate 14 none, h := [intL fibN, o1, o2, o3, .tup [.bool true, .ref 5], intL ls] }) := by
  unfold prOut at h
  unfold restF
  simp only [List.getElem?_cons_zero, List.getElem?_cons_succ]
  show (if (fibN.map (V.int 0 ·)).all flatV = true then (match prS.1 (prSt N) with
    | some (.ret (V.ref j), σ₂) => _
    | _ => none) else none) = _
  rw [if_pos (flat_intL _)]
  split at h
  · rename_i j σ₂ e1
    try rw [e1]
    try dsimp only
    split at h
    · rename_i o0 b i g0 gj
      try rw [g0, gj]
      try dsimp only
      split at h
      · rename_i l gi
        try rw [gi]
        try dsimp only
        split at h
        · rename_i hc
          obtain ⟨h1, h2, h3, h4, h5⟩ := hc
          rw [if_pos ⟨h1, h2, h3, h4, h5⟩]
          cases hi : intsOf l with
          | none => rw [hi] at h; cases h
          | some ns =>
            rw [hi] at h
            cases h
            rw [intsOf_eq hi]
            rfl
        · cases h
      · cases h
    · cases h
  · cases h
theorem product_run {p q : List Int} (hp : p ∈ places24) (hq : q ∈ places24) : ∃ ls, Told ls p q ∧
    productS.1 { v := [some (.ref 0), some (.ref 1), some (.ref 2), none, none, none, none, none, none, none, none, none, none, none], h := [intL fibN, intL p, intL q] } =
      some (.ret (.ref 4), { v := List.replicate 14 none, h := [intL fibN, intL p, intL q, intL (conv2 p q), .tup [.bool true, .ref 5], intL ls] }) := by
  have h := List.all_eq_true.mp (List.all_eq_true.mp ok_pairs p hp) q hq
  unfold okQ at h
  split at h
  · rename_i ls el
    simp only [Bool.and_eq_true, beq_iff_eq, decide_eq_true_eq] at h
    obtain ⟨⟨⟨h1, h2⟩, h3⟩, h4⟩ := h
    have hP := ok_tabP _ (look_mem el)
    unfold okP at hP
    have hP := beq_iff_eq.mp hP
    have sp := small_of hp
    have sq := small_of hq
    refine ⟨ls, ⟨fun t ht => of_decide_eq_true (List.all_eq_true.mp h3 t ht), h4, ?_, ?_⟩, ?_⟩
    · rw [← conv2_su]; exact h1
    · rw [show (p.flatMap fun i => q.map fun j => fibAt (i + j + 1)).sum = su p fun i => su q fun j => fibAt (i + j + 1) by rw [sum_flat]; rfl] at h2
      exact h2
    · rw [product_eq]
      refine (seq_of (σ₁ := { v := [some (.ref 0), some (.ref 1), some (.ref 2), some (.int 0 (conv2 p q).sum), none, none, none, none, none, none, none, none, none, none], h := [intL fibN, intL p, intL q, intL (conv2 p q)] }) ?_).trans (rest_run hP)
      rw [p0_eq]
      refine (set_of (unH_of (comp2 (σ := { v := [some (.ref 0), some (.ref 1), some (.ref 2), none, none, none, none, none, none, none, none, none, none, none], h := [intL fibN, intL p, intL q] }) (mn := 0) (ma := 1) (mb := 2) (p := p) (q := q) rfl rfl rfl rfl rfl rfl rfl rfl rfl (by have := sp.len; omega) (by have := sq.len; omega) (fun i hi j hj => by have := sp.lo i hi; have := sq.lo j hj; omega)) (sum_ints (l := conv2 p q) (by rfl)))).trans rfl
  · cases h
end Mine

-- Z4
namespace Mine
theorem bind_assoc2 {α β γ : Type} (m : Sem α) (f : α → Sem β) (g : β → Sem γ) : (m >>= f) >>= g = m >>= fun a => f a >>= g := by
  show (m.bind f).bind g = m.bind fun a => (f a).bind g
  rw [Sem.bind_eq_wrap, Sem.bind_eq_wrap, Sem.wrap_wrap, Sem.bind_eq_wrap]
  refine Sem.wrap_congr _ _ _ (fun a => (Sem.bind_eq_wrap _ _).symm) fun e => rfl
noncomputable def thenS (l : List Stmt) (en : Env) : Flow → Sem Flow
  | .next => execs l en
  | f => pure f
theorem execs_two (l₂ : List Stmt) (en : Env) : ∀ l₁ : List Stmt, execs (l₁ ++ l₂) en = execs l₁ en >>= thenS l₂ en
  | [] => rfl
  | x :: r => by
    have e1 : execs (x :: (r ++ l₂)) en = exec x en >>= thenS (r ++ l₂) en := by
      show (exec x en >>= fun f => _) = _
      refine congrArg (exec x en >>= ·) (funext fun f => ?_)
      cases f <;> rfl
    have e2 : execs (x :: r) en = exec x en >>= thenS r en := by
      show (exec x en >>= fun f => _) = _
      refine congrArg (exec x en >>= ·) (funext fun f => ?_)
      cases f <;> rfl
    rw [List.cons_append, e1, e2, bind_assoc2]
    refine congrArg (exec x en >>= ·) (funext fun f => ?_)
    cases f with
    | next => exact execs_two l₂ en r
    | _ => rfl
section
variable {c : Cx} {A : Around} {sl : List Slot} {en : Env} {σ σ₁ σ₂ : Mine.St} {fl : Fl}
theorem Go.app {l₁ l₂ : List Stmt} (h : Go c A sl (execs l₁ en) σ .next σ₁) (k : Go c A sl (execs l₂ en) σ₁ fl σ₂) : Go c A sl (execs (l₁ ++ l₂) en) σ fl σ₂ := by
  intro h₀ α s Q E ok I q
  rw [execs_two]
  refine wpAny_bind (h h₀ α s _ E ok I fun α₁ x h₁ tk₁ r₁ I₁ => ?_)
  cases r₁
  exact k h₀ α₁ { s with heap := h₁, toks := tk₁ } Q E ok I₁ fun α₂ x h₂ tk₂ r₂ I₂ => q α₂ x h₂ tk₂ r₂ I₂
end
noncomputable def vA (ow rd wh ce pl : Option V) : List (Option V) := [some (.opq 0), ow, rd, wh, ce, none, none, none, none, none, none, pl, none, none, none, none, none, none, none, none, none, none, none]
noncomputable def ownL : List Int := [115, 173, 249]
noncomputable def cellOf (ns : List Int) (k : Nat) : Int := ownL.getD k 0 + ((pickI ns (some k) (some 63) (some 3)).map low20).sum
noncomputable def placesOf (ns : List Int) (k : Nat) : List Int := (tmOut (cellOf ns k % 720)).getD []
theorem places_of (ns : List Int) (k : Nat) : tmOut (cellOf ns k % 720) = some (placesOf ns k) ∧ placesOf ns k ∈ places24 := by
  have h := okR_all (r := cellOf ns k % 720) (by omega) (by omega)
  unfold okR at h
  unfold placesOf
  split at h
  · rename_i p e
    rw [e]
    exact ⟨rfl, by simpa using h⟩
  · cases h
theorem turn_run {k : Int} {p : List Int} {ow rd : V} {wh pl : Option V} {hh : List O} (h : tmOut (k % 720) = some p) :
    turnF tmS.1 { v := vA (some ow) (some rd) wh (some (.int 0 k)) pl, h := hh } = some (.next, { v := vA (some ow) (some rd) none none (some (.ref hh.length)), h := hh ++ [intL p] }) := by
  unfold tmOut at h
  unfold turnF
  simp only [vA, List.getElem?_cons_zero, List.getElem?_cons_succ]
  split at h
  · rename_i σ₂ e1
    try rw [e1]
    try dsimp only
    split at h
    · rename_i j g11 g0 g1 g2
      try rw [g11, g0, g1, g2]
      split at h
      · rename_i l gj
        split at h
        · rename_i hl
          first
            | rw [if_pos hl]
            | (show (match σ₂.h[j]? with
                | some (O.list l) => if l.all isInt0 = true then some (Fl.next, ({ v := vA (some ow) (some rd) none none (some (.ref hh.length)), h := hh ++ [O.list l] } : Mine.St)) else none
                | _ => none) = _
               rw [gj]
               dsimp only
               rw [if_pos hl])
          have := intsOf_eq h
          subst this
          rfl
        · cases h
      · cases h
    · cases h
  · cases h
theorem intL_in (m : Nat) (l : List Int) : inO m (intL l) := by
  intro v hv
  obtain ⟨x, _, rfl⟩ := List.mem_map.mp hv
  trivial
theorem Lw.z {c : Cx} {D : Ad} (w : Lw c D) (z' : Zt) : Lw { c with z := z' } D :=
  ⟨w.names, ⟨w.fix.get⟩, ⟨w.int2.get⟩, ⟨w.b3.get⟩, ⟨w.fib.get⟩, ⟨w.spelled.get⟩, ⟨w.folds.get⟩, ⟨w.lengths.get⟩, ⟨w.product.get⟩, w.pat, w.dict, w.dictNe⟩
section
variable {c : Cx} {A : Around} {D : Ad} {ns : List Int} {L : Addr}
theorem go_cell (w : Lw c D) (S : ScriptAt c 0 ns) (r : Room A 3) (hns : ns.length ≤ 100000) {k : Nat} (hk : k < 3) {h : List O} (hh : h[0]? = some (intL ownL)) (hi : ∀ o ∈ h, inO h.length o) (h2 : 2 ≤ h.length) :
    Go c A (lawSl D L) (exec Tc.1 (lawEn D L)) { v := vA (some (.ref 0)) (some (.ref 1)) (some (.int 0 k)) none none, h := h } .next { v := vA (some (.ref 0)) (some (.ref 1)) none (some (.int 0 (cellOf ns k))) none, h := h } := by
  have e : (tcS ns).1 { v := vA (some (.ref 0)) (some (.ref 1)) (some (.int 0 k)) none none, h := h } = some (.next, { v := vA (some (.ref 0)) (some (.ref 1)) (some (.int 0 k)) (some (.int 0 (cellOf ns k))) none, h := h ++ [intL (pickI ns (some k) (some 63) (some 3))] ++ [intL ((pickI ns (some k) (some 63) (some 3)).map low20)] }) := by
    rw [tc_eq]
    have e1 : binH (getF 1) (getF 3) itemV { v := vA (some (.ref 0)) (some (.ref 1)) (some (.int 0 k)) none none, h := h } = some (.int 0 (ownL.getD k 0), { v := vA (some (.ref 0)) (some (.ref 1)) (some (.int 0 k)) none none, h := h }) := by
      refine binH_of (a := .ref 0) (b := .int 0 k) rfl rfl ?_
      unfold itemV
      dsimp only
      rw [if_pos rfl, hh]
      have : k = 0 ∨ k = 1 ∨ k = 2 := by omega
      rcases this with rfl | rfl | rfl <;> rfl
    refine (set_of (bin_of e1 (unH_of (comp1 (σ := { v := vA (some (.ref 0)) (some (.ref 1)) (some (.int 0 k)) none none, h := h }) (w := 0) (k := 0) (lo := some k) (hi := some 63) (st := some 3) rfl rfl rfl (by simp) hns (by rw [pick_map, List.length_map]; exact pick_len ns k) (pick_map ns _ _ _)) (sum_ints (l := (pickI ns (some k) (some 63) (some 3)).map low20) (by simp))) (v := .int 0 (cellOf ns k)) rfl)).trans rfl
  have g := Go.less h.length (k := vA (some (.ref 0)) (some (.ref 1)) none (some (.int 0 (cellOf ns k))) none) (Go.of ((tcS ns).2 D c w S A r L) e) trivial ?_ ?_
  · rw [List.append_assoc, List.take_left] at g
    exact g
  · have a : ∀ v, some (V.ref 0) = some v → inV h.length v := fun v e => by cases e; show 0 < h.length; omega
    have b : ∀ v, some (V.ref 1) = some v → inV h.length v := fun v e => by cases e; show 1 < h.length; omega
    refine ⟨.inr ⟨rfl, fun v e => by cases e; trivial⟩, .inr ⟨rfl, a⟩, .inr ⟨rfl, b⟩, .inl rfl, .inr ⟨rfl, fun v e => by cases e; trivial⟩, ?_⟩
    exact ⟨.inl rfl, .inl rfl, .inl rfl, .inl rfl, .inl rfl, .inl rfl, .inl rfl, .inl rfl, .inl rfl, .inl rfl, .inl rfl, .inl rfl, .inl rfl, .inl rfl, .inl rfl, .inl rfl, .inl rfl, .inl rfl, trivial⟩
  · rw [List.append_assoc, List.take_left]
    exact hi
theorem go_turn (w : Lw c D) (S : ScriptAt c 0 ns) (r : Room A 3) (hns : ns.length ≤ 100000) {k : Nat} (hk : k < 3) {rs : List V} {t : List O} (hrs : rs.length ≤ 10) (hin : ∀ v ∈ rs, inV (2 + t.length) v) (ht : ∀ o ∈ t, ∀ m, inO m o) :
    Go c A (lawSl D L) (execs (forB (nthS B_law 2)) (lawEn D L)) { v := vA (some (.ref 0)) (some (.ref 1)) (some (.int 0 k)) none none, h := intL ownL :: .list rs :: t } .next
      { v := vA (some (.ref 0)) (some (.ref 1)) none none none, h := intL ownL :: .list (rs ++ [.ref (2 + t.length)]) :: (t ++ [intL (placesOf ns k)]) } := by
  rw [turn_list]
  have hl : (intL ownL :: O.list rs :: t).length = 2 + t.length := by simp; omega
  have upV : ∀ {m n : Nat} {v : V}, m ≤ n → inV m v → inV n v := fun {m n v} hmn h => by
    cases v with
    | ref j => exact Nat.lt_of_lt_of_le h hmn
    | _ => trivial
  refine Go.cons (go_cell w S r hns hk rfl ?_ (by simp)) ?_
  · intro o ho
    rw [hl]
    rcases List.mem_cons.mp ho with rfl | ho
    · exact intL_in _ _
    · rcases List.mem_cons.mp ho with rfl | ho
      · exact hin
      · exact ht o ho _
  · refine Go.app (Go.of (ExS.turn fun z' => tmS.2 D _ (w.z z') A r L) (turn_run (places_of ns k).1)) ?_
    refine Go.cons (σ₁ := { v := vA (some (.ref 0)) (some (.ref 1)) none none none, h := intL ownL :: .list (rs ++ [.ref (2 + t.length)]) :: (t ++ [intL (placesOf ns k)]) }) ?_ Go.nil
    have e : taS.1 { v := vA (some (.ref 0)) (some (.ref 1)) none none (some (.ref (intL ownL :: O.list rs :: t).length)), h := (intL ownL :: O.list rs :: t) ++ [intL (placesOf ns k)] } =
        some (.next, { v := vA (some (.ref 0)) (some (.ref 1)) none none (some (.ref (intL ownL :: O.list rs :: t).length)), h := intL ownL :: .list (rs ++ [.ref (2 + t.length)]) :: (t ++ [intL (placesOf ns k)]) }) := by
      have e0 : taS.1 = dropF (appF 2 (getF 11)) := by unfold taS; rfl
      rw [e0, hl]
      have : dropF (appF 2 (getF 11)) { v := vA (some (.ref 0)) (some (.ref 1)) none none (some (.ref (2 + t.length))), h := (intL ownL :: O.list rs :: t) ++ [intL (placesOf ns k)] } =
        dropF (fun _ => if rs.length ≤ 100000 then some (.nil, { v := vA (some (.ref 0)) (some (.ref 1)) none none (some (.ref (2 + t.length))), h := intL ownL :: .list (rs ++ [.ref (2 + t.length)]) :: (t ++ [intL (placesOf ns k)]) }) else none) { v := [], h := [] } := rfl
      rw [this]
      unfold dropF
      rw [if_pos (by omega)]
    have g := Go.less (2 + t.length + 1) (k := vA (some (.ref 0)) (some (.ref 1)) none none none) (Go.of (taS.2 D c w A r L) e) trivial ?_ ?_
    · have ht : (intL ownL :: O.list (rs ++ [.ref (2 + t.length)]) :: (t ++ [intL (placesOf ns k)])).take (2 + t.length + 1) = intL ownL :: .list (rs ++ [.ref (2 + t.length)]) :: (t ++ [intL (placesOf ns k)]) := List.take_of_length_le (by simp; omega)
      rw [ht] at g
      exact g
    · refine ⟨.inr ⟨rfl, fun v e => by cases e; trivial⟩, .inr ⟨rfl, fun v e => by cases e; show 0 < _; omega⟩, .inr ⟨rfl, fun v e => by cases e; show 1 < _; omega⟩, ?_⟩
      exact ⟨.inl rfl, .inl rfl, .inl rfl, .inl rfl, .inl rfl, .inl rfl, .inl rfl, .inl rfl, .inl rfl, .inl rfl, .inl rfl, .inl rfl, .inl rfl, .inl rfl, .inl rfl, .inl rfl, .inl rfl, .inl rfl, .inl rfl, .inl rfl, trivial⟩
    · intro o ho
      have ho := List.mem_of_mem_take ho
      rcases List.mem_cons.mp ho with rfl | ho
      · exact intL_in _ _
      · rcases List.mem_cons.mp ho with rfl | ho
        · intro v hv
          rcases List.mem_append.mp hv with hv | hv
          · exact upV (by omega) (hin v hv)
          · rw [List.mem_singleton.mp hv]; show 2 + t.length < _; omega
        · rcases List.mem_append.mp ho with ho | ho
          · exact ht o ho _
          · rw [List.mem_singleton.mp ho]; exact intL_in _ _
end
end Mine

-- Z5
namespace Mine
noncomputable def iterOf : Stmt → Expr
  | .For _ i _ _ _ => i
  | _ => .Constant .none 0 default
noncomputable def pxOf : Stmt → Pos
  | .For (.Name _ p) _ _ _ _ => p
  | _ => default
noncomputable def fposOf : Stmt → Pos
  | .For _ _ _ _ p => p
  | _ => default
noncomputable def Ii : { e : Expr // iterOf (nthS B_law 2) = e } := by refine ⟨?a, ?b⟩; case b => conv => lhs; whnf
theorem for_eq : nthS B_law 2 = .For (.Name "which" (pxOf (nthS B_law 2))) Ii.1 (forB (nthS B_law 2)) [] (fposOf (nthS B_law 2)) := by kernel_rfl
@[irreducible] noncomputable def rgS : { f : St → Option (Src × St) // ∀ (D : Ad) (c : Cx) (_ : Lw c D) (A : Around) (_ : Room A 3) (L : Addr), EvI c A (lawSl D L) (eval Ii.1 (lawEn D L)) f } :=
  ⟨_, fun D c w A r L => by
    delta Ii lawSl lawEn
    dsimp only
    with_reducible refine' EvI.range1 (Says.bl ‹Lw _ _› ?_ ?_ ?_ ?_ ?_ ?_) ?_ ?_
    rotate_left 1
    first | with_reducible rfl | kernel_rfl
    first | with_reducible rfl | kernel_rfl
    first | with_reducible rfl | kernel_rfl
    first | with_reducible rfl | kernel_rfl
    first | with_reducible rfl | kernel_rfl
    first | with_reducible rfl | kernel_rfl
    with_reducible exact EvE.int
    first | with_reducible rfl | kernel_rfl⟩
end Mine

-- Z6
namespace Mine
section
variable {σ σ₁ σ₂ : Mine.St} {vs : List V} {v : V}
theorem unp_of {is : List Nat} {f : Mine.St → Option (V × Mine.St)} {j : Nat} {l : List V} (e : f σ = some (.ref j, σ₁)) (e2 : seqAt σ₁.h j = some l) (hl : l.length = is.length) : unpF is f σ = some (.next, setAll is l σ₁) := by
  unfold unpF; rw [e]; dsimp only; rw [e2]; dsimp only; rw [if_pos hl]
theorem calls_of {nv n : Nat} {f : Mine.St → Option (Fl × Mine.St)} {g : Mine.St → Option (List V × Mine.St)} {r} (e : g σ = some (vs, σ₁)) (hl : vs.length = n) (k : callF nv f vs σ₁ = r) : callsF nv n f g σ = r := by
  unfold callsF; rw [e]; dsimp only; rw [if_pos hl]; exact k
theorem call_of {nv : Nat} {f : Mine.St → Option (Fl × Mine.St)} {hc : List O} (e : pickO σ.h (refsOf vs) = some hc) (h1 : hc.all flatO = true) (h2 : (refsOf vs).Nodup)
    (k : f { v := (renum 0 vs).map some ++ List.replicate (nv - vs.length) none, h := hc } = some (.ret v, σ₂)) (h3 : σ₂.h.take (refsOf vs).length = hc) :
    callF nv f vs σ = some (back (refsOf vs) σ.h.length v, { σ with h := σ.h ++ (σ₂.h.drop (refsOf vs).length).map (backO (refsOf vs) σ.h.length) }) := by
  unfold callF
  rw [e]
  dsimp only
  rw [if_pos ⟨h1, h2⟩, k]
  dsimp only
  rw [if_pos h3]
theorem back_ints (ks : List Nat) (n : Nat) (l : List Int) : backO ks n (intL l) = intL l := by
  show O.list ((l.map (V.int 0 ·)).map (back ks n)) = _
  rw [List.map_map]; rfl
theorem flatO_intL (l : List Int) : flatO (intL l) = true := flat_intL l
theorem pick_one {h : List O} {k : Nat} {r : List Nat} {o : O} {l : List O} (e : h[k]? = some o) (e2 : pickO h r = some l) : pickO h (k :: r) = some (o :: l) := by
  unfold pickO; rw [e]; dsimp only; rw [e2]
theorem call_product {p q : List Int} (hp : p ∈ places24) (hq : q ∈ places24) {a b d : Nat} (ha : σ.h[a]? = some (intL fibN)) (hb : σ.h[b]? = some (intL p)) (hd : σ.h[d]? = some (intL q)) (hn : [a, b, d].Nodup) :
    ∃ ls, Told ls p q ∧ callF 14 productS.1 [.ref a, .ref b, .ref d] σ = some (.ref (σ.h.length + 1), { σ with h := σ.h ++ [intL (conv2 p q), .tup [.bool true, .ref (σ.h.length + 2)], intL ls] }) := by
  obtain ⟨ls, T, e⟩ := product_run hp hq
  refine ⟨ls, T, ?_⟩
  have := call_of (σ := σ) (vs := [.ref a, .ref b, .ref d]) (nv := 14) (f := productS.1) (hc := [intL fibN, intL p, intL q]) (pick_one ha (pick_one hb (pick_one hd rfl))) (by simp [flatO_intL]) hn e rfl
  rw [this]
  show some (V.ref (σ.h.length + 1), ({ σ with h := σ.h ++ [backO [a, b, d] σ.h.length (intL (conv2 p q)), .tup [.bool true, .ref (σ.h.length + 2)], backO [a, b, d] σ.h.length (intL ls)] } : Mine.St)) = _
  rw [back_ints, back_ints]
theorem call_int2 {k : Int} (h1 : -268435456 < k) (h2 : k < 268435456) : ∃ g, callF 4 int2S.1 [.int 0 k] σ = some (.bytes (hexL 7 (if k < 0 then -k else k)), { σ with h := σ.h ++ g }) := by
  obtain ⟨g, mo, e⟩ := int2_run h1 h2
  refine ⟨g.map (backO [] σ.h.length), ?_⟩
  have := call_of (σ := σ) (vs := [.int 0 k]) (nv := 4) (f := int2S.1) (hc := []) rfl rfl (by simp [refsOf]) e rfl
  rw [this]
  rfl
end
theorem l3_eq : l3S.1 = unpF [12, 13, 14] (getF 2) := by unfold l3S; rfl
theorem l8_eq : l8S.1 = unpF [18, 11] (callsF 14 3 productS.1 (consF (getF 15) (consF (getF 12) (consF (getF 13) fun σ => some ([], σ))))) := by unfold l8S; rfl
theorem l9_eq : l9S.1 = unpF [19, 20] (callsF 14 3 productS.1 (consF (getF 15) (consF (getF 13) (consF (getF 14) fun σ => some ([], σ))))) := by unfold l9S; rfl
theorem l12_eq : l12S.1 = retF (andV (getF 18) (andV (getF 19) (binH (newF (consF (callsF 4 1 int2S.1 (consF (getF 21) fun σ => some ([], σ))) (consF (callsF 4 1 int2S.1 (consF (un (getF 21) negV) fun σ => some ([], σ)))
    (consF (callsF 4 1 int2S.1 (consF (getF 22) fun σ => some ([], σ))) (consF (callsF 4 1 int2S.1 (consF (un (getF 22) negV) fun σ => some ([], σ))) fun σ => some ([], σ))))) O.list)
    (newF (consF (getF 16) (consF (getF 16) (consF (getF 16) (consF (getF 16) fun σ => some ([], σ))))) O.list) eqB))) := by unfold l12S; rfl
noncomputable def hR (p q r : List Int) (t : List O) : List O := intL ownL :: .list [.ref 2, .ref 3, .ref 4] :: intL p :: intL q :: intL r :: t
section
variable {p q r : List Int} {t : List O} {pl f1 f2 f3 nu wo le go we ot ah be : Option V}
theorem l6_run (sp : Small p) (sq : Small q) (sr : Small r) : l6S.1 { v := vR none (some (.ref 2)) (some (.ref 3)) (some (.ref 4)) (some (.ref 5)) (some (.bytes [])) none none none none none none, h := hR p q r [intL fibN] } =
    some (.next, { v := vR none (some (.ref 2)) (some (.ref 3)) (some (.ref 4)) (some (.ref 5)) (some (.bytes [])) (some (.int 0 (conv3 p q r).sum)) none none none none none, h := hR p q r [intL fibN] ++ [intL (conv3 p q r)] }) := by
  rw [l6_eq]
  refine (set_of (unH_of (comp3 (σ := { v := vR none (some (.ref 2)) (some (.ref 3)) (some (.ref 4)) (some (.ref 5)) (some (.bytes [])) none none none none none none, h := hR p q r [intL fibN] }) (mn := 5) (ma := 2) (mb := 3) (md := 4) (p := p) (q := q) (r := r) rfl rfl rfl rfl rfl rfl rfl rfl rfl rfl rfl rfl
    (by have := sp.len; omega) (by have := sq.len; omega) (by have := sr.len; omega) (fun i hi j hj k hk => by have := sp.lo i hi; have := sq.lo j hj; have := sr.lo k hk; omega)) (sum_ints (l := conv3 p q r) (by rfl)))).trans rfl
theorem l8_run (hp : p ∈ places24) (hq : q ∈ places24) : ∃ ls, Told ls p q ∧ l8S.1 { v := vR none (some (.ref 2)) (some (.ref 3)) (some (.ref 4)) (some (.ref 5)) wo none none none none none none, h := hR p q r [intL fibN] } =
    some (.next, { v := vR (some (.ref 8)) (some (.ref 2)) (some (.ref 3)) (some (.ref 4)) (some (.ref 5)) wo none (some (.bool true)) none none none none, h := hR p q r [intL fibN, intL (conv2 p q), .tup [.bool true, .ref 8], intL ls] }) := by
  obtain ⟨ls, T, e⟩ := call_product (σ := { v := vR none (some (.ref 2)) (some (.ref 3)) (some (.ref 4)) (some (.ref 5)) wo none none none none none none, h := hR p q r [intL fibN] }) hp hq (a := 5) (b := 2) (d := 3) rfl rfl rfl (by decide)
  refine ⟨ls, T, ?_⟩
  rw [l8_eq]
  refine (unp_of (calls_of (vs := [.ref 5, .ref 2, .ref 3]) (σ₁ := { v := vR none (some (.ref 2)) (some (.ref 3)) (some (.ref 4)) (some (.ref 5)) wo none none none none none none, h := hR p q r [intL fibN] }) rfl rfl e) (l := [.bool true, .ref 8]) rfl rfl).trans rfl
theorem l9_run (hq : q ∈ places24) (hr : r ∈ places24) {x y z : O} : ∃ ls, Told ls q r ∧ l9S.1 { v := vR (some (.ref 8)) (some (.ref 2)) (some (.ref 3)) (some (.ref 4)) (some (.ref 5)) wo none (some (.bool true)) none none none none, h := hR p q r [intL fibN, x, y, z] } =
    some (.next, { v := vR (some (.ref 8)) (some (.ref 2)) (some (.ref 3)) (some (.ref 4)) (some (.ref 5)) wo none (some (.bool true)) (some (.bool true)) (some (.ref 11)) none none, h := hR p q r [intL fibN, x, y, z, intL (conv2 q r), .tup [.bool true, .ref 11], intL ls] }) := by
  obtain ⟨ls, T, e⟩ := call_product (σ := { v := vR (some (.ref 8)) (some (.ref 2)) (some (.ref 3)) (some (.ref 4)) (some (.ref 5)) wo none (some (.bool true)) none none none none, h := hR p q r [intL fibN, x, y, z] }) hq hr (a := 5) (b := 3) (d := 4) rfl rfl rfl (by decide)
  refine ⟨ls, T, ?_⟩
  rw [l9_eq]
  refine (unp_of (calls_of (vs := [.ref 5, .ref 3, .ref 4]) (σ₁ := { v := vR (some (.ref 8)) (some (.ref 2)) (some (.ref 3)) (some (.ref 4)) (some (.ref 5)) wo none (some (.bool true)) none none none none, h := hR p q r [intL fibN, x, y, z] }) rfl rfl e) (l := [.bool true, .ref 11]) rfl rfl).trans rfl
theorem l10_run {ls ms : List Int} (hl : ∀ t ∈ ls, 0 ≤ t ∧ t ≤ 20) (ll : ls.length < 20) (sr : Small r) {x y u w : O} : l10S.1 { v := vR (some (.ref 8)) (some (.ref 2)) (some (.ref 3)) (some (.ref 4)) (some (.ref 5)) wo none (some (.bool true)) (some (.bool true)) (some (.ref 11)) none none, h := hR p q r [intL fibN, x, y, intL ls, u, w, intL ms] } =
    some (.next, { v := vR (some (.ref 8)) (some (.ref 2)) (some (.ref 3)) (some (.ref 4)) (some (.ref 5)) wo none (some (.bool true)) (some (.bool true)) (some (.ref 11)) (some (.int 0 (conv2 ls r).sum)) none, h := hR p q r [intL fibN, x, y, intL ls, u, w, intL ms] ++ [intL (conv2 ls r)] }) := by
  rw [l10_eq]
  refine (set_of (unH_of (comp2 (σ := { v := vR (some (.ref 8)) (some (.ref 2)) (some (.ref 3)) (some (.ref 4)) (some (.ref 5)) wo none (some (.bool true)) (some (.bool true)) (some (.ref 11)) none none, h := hR p q r [intL fibN, x, y, intL ls, u, w, intL ms] }) (mn := 5) (ma := 8) (mb := 4) (p := ls) (q := r) rfl rfl rfl rfl rfl rfl rfl rfl rfl
    (by omega) (by have := sr.len; omega) (fun i hi j hj => by have := hl i hi; have := sr.lo j hj; omega)) (sum_ints (l := conv2 ls r) (by rfl)))).trans rfl
theorem l11_run {ls ms : List Int} (hm : ∀ t ∈ ms, 0 ≤ t ∧ t ≤ 20) (lm : ms.length < 20) (sp : Small p) {x y u w : O} {a b : Int} : l11S.1 { v := vR (some (.ref 8)) (some (.ref 2)) (some (.ref 3)) (some (.ref 4)) (some (.ref 5)) wo none (some (.bool true)) (some (.bool true)) (some (.ref 11)) (some (.int a b)) none, h := hR p q r [intL fibN, x, y, intL ls, u, w, intL ms] } =
    some (.next, { v := vR (some (.ref 8)) (some (.ref 2)) (some (.ref 3)) (some (.ref 4)) (some (.ref 5)) wo none (some (.bool true)) (some (.bool true)) (some (.ref 11)) (some (.int a b)) (some (.int 0 (conv2 p ms).sum)), h := hR p q r [intL fibN, x, y, intL ls, u, w, intL ms] ++ [intL (conv2 p ms)] }) := by
  rw [l11_eq]
  refine (set_of (unH_of (comp2 (σ := { v := vR (some (.ref 8)) (some (.ref 2)) (some (.ref 3)) (some (.ref 4)) (some (.ref 5)) wo none (some (.bool true)) (some (.bool true)) (some (.ref 11)) (some (.int a b)) none, h := hR p q r [intL fibN, x, y, intL ls, u, w, intL ms] }) (mn := 5) (ma := 2) (mb := 11) (p := p) (q := ms) rfl rfl rfl rfl rfl rfl rfl rfl rfl
    (by have := sp.len; omega) (by omega) (fun i hi j hj => by have := sp.lo i hi; have := hm j hj; omega)) (sum_ints (l := conv2 p ms) (by rfl)))).trans rfl
theorem abs_neg {N : Int} (h0 : 0 ≤ N) : (if N < 0 then -N else N) = N ∧ (if -N < 0 then - -N else -N) = N := by
  constructor
  · rw [if_neg (by omega)]
  · split <;> omega
theorem l12_run {N : Int} (h0 : 0 ≤ N) (h1 : N < 268435456) {h : List O} {a b d e' f g : Option V} : ∃ k, l12S.1 { v := vR a b d e' f (some (.bytes (hexL 7 N))) none (some (.bool true)) (some (.bool true)) g (some (.int 0 N)) (some (.int 0 N)), h := h } =
    some (.ret (.bool true), { v := vR a b d e' f (some (.bytes (hexL 7 N))) none (some (.bool true)) (some (.bool true)) g (some (.int 0 N)) (some (.int 0 N)), h := k }) := by
  obtain ⟨z1, z2⟩ := abs_neg h0
  let v0 := vR a b d e' f (some (.bytes (hexL 7 N))) none (some (.bool true)) (some (.bool true)) g (some (.int 0 N)) (some (.int 0 N))
  obtain ⟨g1, c1⟩ := call_int2 (σ := { v := v0, h := h }) (k := N) (by omega) (by omega)
  obtain ⟨g2, c2⟩ := call_int2 (σ := { v := v0, h := h ++ g1 }) (k := -N) (by omega) (by omega)
  obtain ⟨g3, c3⟩ := call_int2 (σ := { v := v0, h := h ++ g1 ++ g2 }) (k := N) (by omega) (by omega)
  obtain ⟨g4, c4⟩ := call_int2 (σ := { v := v0, h := h ++ g1 ++ g2 ++ g3 }) (k := -N) (by omega) (by omega)
  rw [z1] at c1 c3
  rw [z2] at c2 c4
  have n1 : negV (.int 0 N) = some (.int 0 (-N)) := rfl
  let W := hexL 7 N
  refine ⟨h ++ g1 ++ g2 ++ g3 ++ g4 ++ [.list [.bytes W, .bytes W, .bytes W, .bytes W]] ++ [.list [.bytes W, .bytes W, .bytes W, .bytes W]], ?_⟩
  rw [l12_eq]
  refine ret_of ?_
  have e3 := binH_of (k := eqB) (new_of (k := O.list) (cons_of (calls_of (vs := [.int 0 N]) (n := 1) (g := consF (getF 21) fun σ => some ([], σ)) (σ := { v := v0, h := h }) (σ₁ := { v := v0, h := h }) rfl rfl c1)
    (cons_of (calls_of (vs := [.int 0 (-N)]) (n := 1) (g := consF (un (getF 21) negV) fun σ => some ([], σ)) (σ₁ := { v := v0, h := h ++ g1 }) rfl rfl c2)
    (cons_of (calls_of (vs := [.int 0 N]) (n := 1) (g := consF (getF 22) fun σ => some ([], σ)) (σ₁ := { v := v0, h := h ++ g1 ++ g2 }) rfl rfl c3)
    (cons_of (calls_of (vs := [.int 0 (-N)]) (n := 1) (g := consF (un (getF 22) negV) fun σ => some ([], σ)) (σ₁ := { v := v0, h := h ++ g1 ++ g2 ++ g3 }) rfl rfl c4) (g := fun σ => some ([], σ)) rfl)))) (by simp))
    (g := newF (consF (getF 16) (consF (getF 16) (consF (getF 16) (consF (getF 16) fun σ => some ([], σ))))) O.list)
    (new_of (k := O.list) (l := [.bytes W, .bytes W, .bytes W, .bytes W]) (σ₁ := { v := v0, h := h ++ g1 ++ g2 ++ g3 ++ g4 ++ [.list [.bytes W, .bytes W, .bytes W, .bytes W]] }) rfl (by simp)) (v := .bool true) (by
      unfold Mine.eqB
      dsimp only
      have x1 : (h ++ g1 ++ g2 ++ g3 ++ g4 ++ [O.list [.bytes W, .bytes W, .bytes W, .bytes W]] ++ [O.list [.bytes W, .bytes W, .bytes W, .bytes W]])[(h ++ g1 ++ g2 ++ g3 ++ g4).length]? = some (.list [.bytes W, .bytes W, .bytes W, .bytes W]) := by
        rw [List.append_assoc (h ++ g1 ++ g2 ++ g3 ++ g4)]
        rw [List.getElem?_append_right (Nat.le_refl _), Nat.sub_self]; rfl
      have x2 : (h ++ g1 ++ g2 ++ g3 ++ g4 ++ [O.list [.bytes W, .bytes W, .bytes W, .bytes W]] ++ [O.list [.bytes W, .bytes W, .bytes W, .bytes W]])[(h ++ g1 ++ g2 ++ g3 ++ g4 ++ [O.list [.bytes W, .bytes W, .bytes W, .bytes W]]).length]? = some (.list [.bytes W, .bytes W, .bytes W, .bytes W]) := by
        rw [List.getElem?_append_right (Nat.le_refl _), Nat.sub_self]; rfl
      rw [x1, x2]
      dsimp only
      rw [if_pos ⟨rfl, by rfl⟩])
  have e2 : andV (getF 19) (binH (newF (consF (callsF 4 1 int2S.1 (consF (getF 21) fun σ => some ([], σ))) (consF (callsF 4 1 int2S.1 (consF (un (getF 21) negV) fun σ => some ([], σ)))
    (consF (callsF 4 1 int2S.1 (consF (getF 22) fun σ => some ([], σ))) (consF (callsF 4 1 int2S.1 (consF (un (getF 22) negV) fun σ => some ([], σ))) fun σ => some ([], σ))))) O.list)
    (newF (consF (getF 16) (consF (getF 16) (consF (getF 16) (consF (getF 16) fun σ => some ([], σ))))) O.list) eqB) { v := v0, h := h } = some (.bool true, { v := v0, h := h ++ g1 ++ g2 ++ g3 ++ g4 ++ [.list [.bytes W, .bytes W, .bytes W, .bytes W]] ++ [.list [.bytes W, .bytes W, .bytes W, .bytes W]] }) := e3
  exact e2
end
end Mine

-- Z7
namespace Mine
theorem law_parts : B_law = [Li0.1, Li1.1, nthS B_law 2, Li3.1, Li4.1, Li5.1, Li6.1, Li7.1, Li8.1, Li9.1, Li10.1, Li11.1, Li12.1] := by kernel_rfl
section
variable {c : Cx} {A : Around} {D : Ad} {ns : List Int} {L : Addr} {p q r : List Int}
theorem lessR {m : Nat} {v : List (Option V)} {a b d e f g h i j k l n : Option V} (hh : Less m v (vR a b d e f g h i j k l n)) : Less m v (vR a b d e f g h i j k l n) := hh
theorem take_hR {t u : List O} {m : Nat} (hm : m = 5 + t.length) : (hR p q r t ++ u).take m = hR p q r t := by
  subst hm
  have : (hR p q r t).length = 5 + t.length := by simp [hR]; omega
  rw [← this, List.take_left]
theorem in_hR {t : List O} {m : Nat} (hm : 5 ≤ m) (ht : ∀ o ∈ t, inO m o) : ∀ o ∈ hR p q r t, inO m o := by
  intro o ho
  unfold hR at ho
  rcases List.mem_cons.mp ho with rfl | ho
  · exact intL_in _ _
  · rcases List.mem_cons.mp ho with rfl | ho
    · intro v hv
      simp at hv
      rcases hv with rfl | rfl | rfl
      · show 2 < m; omega
      · show 3 < m; omega
      · show 4 < m; omega
    · rcases List.mem_cons.mp ho with rfl | ho
      · exact intL_in _ _
      · rcases List.mem_cons.mp ho with rfl | ho
        · exact intL_in _ _
        · rcases List.mem_cons.mp ho with rfl | ho
          · exact intL_in _ _
          · exact ht o ho
noncomputable def loopS (ns : List Int) (k : Nat) : Mine.St := { v := vA (some (.ref 0)) (some (.ref 1)) none none none, h := intL ownL :: .list ((List.range k).map fun i => V.ref (2 + i)) :: (List.range k).map fun i => intL (placesOf ns i) }
theorem go_loop (w : Lw c D) (S : ScriptAt c 0 ns) (ro : Room A 3) (hns : ns.length ≤ 100000) : Go c A (lawSl D L) (exec (nthS B_law 2) (lawEn D L)) (loopS ns 0) .next (loopS ns 3) := by
  have e0 : rgS.1 (loopS ns 0) = some (.range 0 3 1, loopS ns 0) := by unfold rgS; rfl
  have a : AccS (lawEn D L) (lawSl D L) "which" 3 := AccS.loc (by kernel_rfl) (by kernel_rfl) (by kernel_rfl)
  have g := Go.forR (c := c) (px := pxOf (nthS B_law 2)) (pos := fposOf (nthS B_law 2)) (body := forB (nthS B_law 2)) (loopS ns) ro.calm a (rgS.2 D c w A ro L) e0 (fun k hk => ?_) (fun x => by kernel_rfl)
  · rw [← for_eq] at g
    exact g
  · have t := go_turn (L := L) w S ro hns hk (rs := (List.range k).map fun i => V.ref (2 + i)) (t := (List.range k).map fun i => intL (placesOf ns i)) (by simp; omega) (fun v hv => by
      obtain ⟨i, hi, rfl⟩ := List.mem_map.mp hv
      have := List.mem_range.mp hi
      show 2 + i < 2 + _
      simp; omega) (fun o ho m => by
      obtain ⟨i, _, rfl⟩ := List.mem_map.mp ho
      exact intL_in _ _)
    have e1 : loopS ns (k + 1) = { v := vA (some (.ref 0)) (some (.ref 1)) none none none, h := intL ownL :: .list (((List.range k).map fun i => V.ref (2 + i)) ++ [.ref (2 + ((List.range k).map fun i => intL (placesOf ns i)).length)]) :: (((List.range k).map fun i => intL (placesOf ns i)) ++ [intL (placesOf ns k)]) } := by
      unfold loopS
      rw [List.range_succ, List.map_append, List.map_append]
      simp
    rw [e1]
    exact t
theorem loop_end : loopS ns 3 = { v := vA (some (.ref 0)) (some (.ref 1)) none none none, h := hR (placesOf ns 0) (placesOf ns 1) (placesOf ns 2) [] } := rfl
theorem go_rest (w : Lw c D) (ro : Room A 3) (hp : p ∈ places24) (hq : q ∈ places24) (hr : r ∈ places24) :
    Go c A (lawSl D L) (execs [Li3.1, Li4.1, Li5.1, Li6.1, Li7.1, Li8.1, Li9.1, Li10.1, Li11.1, Li12.1] (lawEn D L)) { v := vA (some (.ref 0)) (some (.ref 1)) none none none, h := hR p q r [] } (.ret (.bool true)) { v := List.replicate 23 none, h := [] } := by
  have t6 : ∀ u, (hR p q r [intL fibN] ++ u).take 6 = hR p q r [intL fibN] := fun u => take_hR rfl
  have sp := small_of hp
  have sq := small_of hq
  have sr := small_of hr
  obtain ⟨n0, n1⟩ := conv3_bound sp.lo sq.lo sr.lo sp.len sq.len sr.len
  -- first, second, third = read
  refine Go.cons (σ₁ := { v := vR none (some (.ref 2)) (some (.ref 3)) (some (.ref 4)) none none none none none none none none, h := hR p q r [] }) ?_ ?_
  · have e : l3S.1 { v := vA (some (.ref 0)) (some (.ref 1)) none none none, h := hR p q r [] } = some (.next, { v := setAll [12, 13, 14] [.ref 2, .ref 3, .ref 4] { v := vA (some (.ref 0)) (some (.ref 1)) none none none, h := hR p q r [] } |>.v, h := hR p q r [] }) := by
      rw [l3_eq]
      exact unp_of (σ₁ := { v := vA (some (.ref 0)) (some (.ref 1)) none none none, h := hR p q r [] }) (l := [.ref 2, .ref 3, .ref 4]) rfl rfl rfl
    have g := Go.less 5 (k := vR none (some (.ref 2)) (some (.ref 3)) (some (.ref 4)) none none none none none none none none) (Go.of (l3S.2 D c w A ro L) e) trivial (by simp [Less, vR, vA, setAll, inV]) (by
      have := take_hR (p := p) (q := q) (r := r) (t := []) (u := []) (m := 5) rfl
      rw [List.append_nil] at this
      rw [this]
      exact in_hR (by omega) (by simp))
    have this := take_hR (p := p) (q := q) (r := r) (t := []) (u := []) (m := 5) rfl
    rw [List.append_nil] at this
    rw [this] at g
    exact g
  -- numbers, word
  refine Go.cons (σ₁ := { v := vR none (some (.ref 2)) (some (.ref 3)) (some (.ref 4)) (some (.ref 5)) none none none none none none none, h := hR p q r [intL fibN] }) (Go.of (l4S.2 D c w A ro L) (by kernel_rfl)) ?_
  refine Go.cons (σ₁ := { v := vR none (some (.ref 2)) (some (.ref 3)) (some (.ref 4)) (some (.ref 5)) (some (.bytes [])) none none none none none none, h := hR p q r [intL fibN] }) (Go.of (l5S.2 D c w A ro L) (by kernel_rfl)) ?_
  -- left
  refine Go.cons (σ₁ := { v := vR none (some (.ref 2)) (some (.ref 3)) (some (.ref 4)) (some (.ref 5)) (some (.bytes [])) (some (.int 0 (conv3 p q r).sum)) none none none none none, h := hR p q r [intL fibN] }) ?_ ?_
  · have g := Go.less 6 (k := vR none (some (.ref 2)) (some (.ref 3)) (some (.ref 4)) (some (.ref 5)) (some (.bytes [])) (some (.int 0 (conv3 p q r).sum)) none none none none none) (Go.of (l6S.2 D c w A ro L) (l6_run sp sq sr)) trivial (by simp [Less, vR, inV]) (by
      rw [t6]
      exact in_hR (by omega) (by intro o ho; rw [List.mem_singleton.mp ho]; exact intL_in _ _))
    rw [t6] at g
    exact g
  -- the word
  refine Go.cons (σ₁ := { v := vR none (some (.ref 2)) (some (.ref 3)) (some (.ref 4)) (some (.ref 5)) (some (.bytes (hexL 7 (conv3 p q r).sum))) none none none none none none, h := hR p q r [intL fibN] }) ?_ ?_
  · obtain ⟨g', e⟩ := w_loop (pl := none) (f1 := some (.ref 2)) (f2 := some (.ref 3)) (f3 := some (.ref 4)) (nu := some (.ref 5)) (go := none) (we := none) (ot := none) (ah := none) (be := none) 7 (m := (conv3 p q r).sum) (w := []) (h := hR p q r [intL fibN]) (fuel := 100) n0 (by simpa using n1) (by omega) (by simp)
    have e7 : l7S.1 { v := vR none (some (.ref 2)) (some (.ref 3)) (some (.ref 4)) (some (.ref 5)) (some (.bytes [])) (some (.int 0 (conv3 p q r).sum)) none none none none none, h := hR p q r [intL fibN] } =
        some (.next, { v := vR none (some (.ref 2)) (some (.ref 3)) (some (.ref 4)) (some (.ref 5)) (some (.bytes (hexL 7 (conv3 p q r).sum))) (some (.int 0 0)) none none none none none, h := hR p q r [intL fibN] ++ g' }) := by
      rw [l7_eq]
      unfold whileS
      rw [e, List.append_nil]
    have g := Go.less 6 (k := vR none (some (.ref 2)) (some (.ref 3)) (some (.ref 4)) (some (.ref 5)) (some (.bytes (hexL 7 (conv3 p q r).sum))) none none none none none none) (Go.of (l7S.2 D c w A ro L) e7) trivial (by simp [Less, vR, inV]) (by
      rw [t6]
      exact in_hR (by omega) (by intro o ho; rw [List.mem_singleton.mp ho]; exact intL_in _ _))
    rw [t6] at g
    exact g
  -- the products
  obtain ⟨ls, T1, e8⟩ := l8_run (r := r) (wo := some (.bytes (hexL 7 (conv3 p q r).sum))) hp hq
  refine Go.cons (Go.of (l8S.2 D c w A ro L) e8) ?_
  obtain ⟨ms, T2, e9⟩ := l9_run (p := p) (wo := some (.bytes (hexL 7 (conv3 p q r).sum))) hq hr (x := intL (conv2 p q)) (y := .tup [.bool true, .ref 8]) (z := intL ls)
  refine Go.cons (Go.of (l9S.2 D c w A ro L) e9) ?_
  have t12 : ∀ u, (hR p q r [intL fibN, intL (conv2 p q), .tup [.bool true, .ref 8], intL ls, intL (conv2 q r), .tup [.bool true, .ref 11], intL ms] ++ u).take 12 = hR p q r [intL fibN, intL (conv2 p q), .tup [.bool true, .ref 8], intL ls, intL (conv2 q r), .tup [.bool true, .ref 11], intL ms] := fun u => take_hR rfl
  have h12 : ∀ o ∈ ([intL fibN, intL (conv2 p q), .tup [.bool true, .ref 8], intL ls, intL (conv2 q r), .tup [.bool true, .ref 11], intL ms] : List O), inO 12 o := by
    intro o ho
    simp only [List.mem_cons, List.not_mem_nil, or_false] at ho
    rcases ho with rfl | rfl | rfl | rfl | rfl | rfl | rfl
    · exact intL_in _ _
    · exact intL_in _ _
    · intro v hv
      simp at hv
      rcases hv with rfl | rfl
      · trivial
      · show 8 < 12; omega
    · exact intL_in _ _
    · exact intL_in _ _
    · intro v hv
      simp at hv
      rcases hv with rfl | rfl
      · trivial
      · show 11 < 12; omega
    · exact intL_in _ _
  have w1 := one_way T1.lo sp.lo sq.lo sr.lo T1.e0 T1.e1
  have w2 := other_way T2.lo sp.lo sq.lo sr.lo T2.e0 T2.e1
  refine Go.cons (σ₁ := { v := vR (some (.ref 8)) (some (.ref 2)) (some (.ref 3)) (some (.ref 4)) (some (.ref 5)) (some (.bytes (hexL 7 (conv3 p q r).sum))) none (some (.bool true)) (some (.bool true)) (some (.ref 11)) (some (.int 0 (conv3 p q r).sum)) none, h := hR p q r [intL fibN, intL (conv2 p q), .tup [.bool true, .ref 8], intL ls, intL (conv2 q r), .tup [.bool true, .ref 11], intL ms] }) ?_ ?_
  · have e10 := l10_run (p := p) (q := q) (wo := some (.bytes (hexL 7 (conv3 p q r).sum))) (ms := ms) T1.lo T1.len sr (x := intL (conv2 p q)) (y := .tup [.bool true, .ref 8]) (u := intL (conv2 q r)) (w := .tup [.bool true, .ref 11])
    rw [w1] at e10
    have g := Go.less 12 (k := vR (some (.ref 8)) (some (.ref 2)) (some (.ref 3)) (some (.ref 4)) (some (.ref 5)) (some (.bytes (hexL 7 (conv3 p q r).sum))) none (some (.bool true)) (some (.bool true)) (some (.ref 11)) (some (.int 0 (conv3 p q r).sum)) none) (Go.of (l10S.2 D c w A ro L) e10) trivial (by simp [Less, vR, inV]) (by
      rw [t12]
      exact in_hR (by omega) h12)
    rw [t12] at g
    exact g
  have e11 := l11_run (q := q) (r := r) (wo := some (.bytes (hexL 7 (conv3 p q r).sum))) (ls := ls) T2.lo T2.len sp (x := intL (conv2 p q)) (y := .tup [.bool true, .ref 8]) (u := intL (conv2 q r)) (w := .tup [.bool true, .ref 11]) (a := 0) (b := (conv3 p q r).sum)
  rw [w2] at e11
  refine Go.cons (Go.of (l11S.2 D c w A ro L) e11) ?_
  obtain ⟨k, e12⟩ := l12_run n0 n1 (h := hR p q r [intL fibN, intL (conv2 p q), .tup [.bool true, .ref 8], intL ls, intL (conv2 q r), .tup [.bool true, .ref 11], intL ms] ++ [intL (conv2 p ms)]) (a := some (.ref 8)) (b := some (.ref 2)) (d := some (.ref 3)) (e' := some (.ref 4)) (f := some (.ref 5)) (g := some (.ref 11))
  refine Go.stop ?_
  have g := Go.less 0 (k := List.replicate 23 none) (Go.of (l12S.2 D c w A ro L) e12) rfl (by simp [Less, vR, List.replicate]) (by simp)
  exact g
end
end Mine

-- Z8
namespace Mine
section
variable {c : Cx} {A : Around} {D : Ad} {ns : List Int}
theorem go_law (w : Lw c D) (S : ScriptAt c 0 ns) (ro : Room A 3) (hns : ns.length ≤ 100000) (L : Addr) : Go c A (lawSl D L) (execs B_law (lawEn D L)) { v := vA none none none none none, h := [] } (.ret (.bool true)) { v := List.replicate 23 none, h := [] } := by
  have key : ∀ B : List Stmt, B = [Li0.1, Li1.1, nthS B_law 2, Li3.1, Li4.1, Li5.1, Li6.1, Li7.1, Li8.1, Li9.1, Li10.1, Li11.1, Li12.1] → Go c A (lawSl D L) (execs B (lawEn D L)) { v := vA none none none none none, h := [] } (.ret (.bool true)) { v := List.replicate 23 none, h := [] } := by
    rintro _ rfl
    refine Go.cons (σ₁ := { v := vA (some (.ref 0)) none none none none, h := [intL ownL] }) (Go.of (l0S.2 D c w A ro L) (by kernel_rfl)) ?_
    refine Go.cons (σ₁ := loopS ns 0) (Go.of (l1S.2 D c w A ro L) (by kernel_rfl)) ?_
    refine Go.cons (go_loop w S ro hns) ?_
    rw [loop_end]
    exact go_rest w ro (places_of ns 0).2 (places_of ns 1).2 (places_of ns 2).2
  exact key _ law_parts
noncomputable def lawF : Mine.St → Option (Fl × Mine.St) := fun σ => if σ.v = vA none none none none none ∧ σ.h = [] then some (.ret (.bool true), { v := List.replicate 23 none, h := [] }) else none
theorem exS_law (w : Lw c D) (S : ScriptAt c 0 ns) (ro : Room A 3) (hns : ns.length ≤ 100000) (L : Addr) : ExS c A (lawSl D L) (execs B_law (lawEn D L)) lawF := by
  intro h₀ α σ s v σ' Q E ok I e q
  unfold lawF at e
  split at e
  · rename_i hσ
    cases e
    obtain ⟨sv, sh⟩ := σ
    obtain ⟨rfl, rfl⟩ : sv = _ ∧ sh = [] := hσ
    have hα : α = [] := List.eq_nil_of_length_eq_zero (by rw [I.len]; rfl)
    subst hα
    exact go_law w S ro hns L h₀ [] s Q E ok I fun α' x h' tk r I' => q α' x h' tk (List.nil_prefix) r I'
  · cases e
theorem callF_law : callF 23 lawF [.opq 0] { v := [], h := [] } = some (.bool true, { v := [], h := [] }) := by kernel_rfl
theorem call_law (w : Lw c D) (fa : FnAt c D.law (F_law D)) (S : ScriptAt c 0 ns) (ro : Room A 4) (hns : ns.length ≤ 100000) {h₀ : Heap} (ok : c.ok h₀) {s : Shared} (hs : ∀ b o, h₀.get? b = some o → s.heap.get? b = some o) {b : Value} (hb : b = c.z.t 0) {Q : Value → Shared → Prop} {E : Value → Shared → Prop}
    (q : ∀ h' tk, (∀ b o, h₀.get? b = some o → h'.get? b = some o) → Q (.bool true) { s with heap := h', toks := tk }) : wpAny (model c.prog c.w) A (call (.ref D.law) [b]) Q E s := by
  refine call_fn (sl := []) (α := []) (σ := { v := [], h := [] }) (vs := [.opq 0]) (f := lawF) (v := .bool true) (σ' := { v := [], h := [] }) fa (form_law D) (by have := ro.depth; omega) (fun L => exS_law w S (ro.deep _) hns L) ok
    { keep := hs, live := (fun _ h => by cases h), vars := (fun i v e => by simp at e), objs := (fun i o e => by simp at e), len := rfl, apart := .nil, nodup := List.nodup_nil, sep := (fun _ h => by cases h), fresh := (fun _ h => by cases h), freshS := (fun _ h => by cases h) }
    (.cons hb .nil) rfl callF_law fun α' x h' tk _ r I' => ?_
  cases r
  exact q h' tk I'.keep
end
end Mine

-- HT4
namespace Mine
noncomputable def codeAt : Nat → Value
  | 0 => .ref 42
  | 1 => .ref 49
  | 2 => .ref 95
  | 3 => .ref 102
  | 4 => .ref 109
  | 5 => .ref 114
  | 6 => .ref 119
  | 7 => .ref 124
  | _ => .ref 129
noncomputable def modAt : Nat → Value
  | 0 => .str "cpy313.smtplib" 282
  | 1 => .str "cpy313.imaplib" 335
  | 2 => .str "cpy313.stringprep" 347
  | _ => .str "law_ta0025_01" 2308
noncomputable def D0 : Ad := { fix := 43, int2 := 50, b3 := 96, fib := 103, spelled := 110, folds := 115, lengths := 120, product := 125, law := 130, twin := 36, dict := 51, crlf := 326, cd := codeAt, pm := modAt }
theorem e_names (w : World) : (glist D0).map (fun p => (endH w).nsMap mainGlobals p.1) = (glist D0).map fun p => some p.2 := by kernel_rfl
theorem e_blt (w : World) : blist.map (fun p => ((endH w).nsMap mainGlobals p.1, (endH w).nsMap builtinsNs p.1)) = blist.map fun p => (none, some p.2) := by kernel_rfl
theorem e_law (w : World) : (endH w).nsMap mainGlobals "law" = some (.ref 130) := by kernel_rfl
theorem map_mem {α β : Type} {f g : α → β} : ∀ {l : List α}, l.map f = l.map g → ∀ a ∈ l, f a = g a
  | [], _, _, h => by cases h
  | x :: r, e, a, h => by
    rw [List.map_cons, List.map_cons, List.cons.injEq] at e
    rcases List.mem_cons.mp h with rfl | h
    · exact e.1
    · exact map_mem e.2 a h
theorem lookup_mem {β : Type} {k : Str} {y : β} : ∀ {l : List (Str × β)}, l.lookup k = some y → (k, y) ∈ l
  | [], h => by cases h
  | (a, b) :: r, h => by
    rw [List.lookup_cons] at h
    split at h
    · rename_i he
      cases h
      rw [eq_of_beq he]
      exact .head _
    · exact .tail _ (lookup_mem h)
theorem g_43 (w : World) : (endH w).get? 43 = some (ho_43 w.params) := by kernel_rfl
theorem g_50 (w : World) : (endH w).get? 50 = some (ho_50 w.params) := by kernel_rfl
theorem g_96 (w : World) : (endH w).get? 96 = some (ho_96 w.params) := by kernel_rfl
theorem g_103 (w : World) : (endH w).get? 103 = some (ho_103 w.params) := by kernel_rfl
theorem g_110 (w : World) : (endH w).get? 110 = some (ho_110 w.params) := by kernel_rfl
theorem g_115 (w : World) : (endH w).get? 115 = some (ho_115 w.params) := by kernel_rfl
theorem g_120 (w : World) : (endH w).get? 120 = some (ho_120 w.params) := by kernel_rfl
theorem g_125 (w : World) : (endH w).get? 125 = some (ho_125 w.params) := by kernel_rfl
theorem g_130 (w : World) : (endH w).get? 130 = some (ho_130 w.params) := by kernel_rfl
theorem c_43 (w : World) : (endH w).CodeRec (.ref 42) "_fix_eols" := ⟨42, ho_42 w.params, _, 329, rfl, by kernel_rfl, rfl, rfl⟩
theorem c_50 (w : World) : (endH w).CodeRec (.ref 49) "Int2AP" := ⟨49, ho_49 w.params, _, 338, rfl, by kernel_rfl, rfl, rfl⟩
theorem c_96 (w : World) : (endH w).CodeRec (.ref 95) "map_table_b3" := ⟨95, ho_95 w.params, _, 2301, rfl, by kernel_rfl, rfl, rfl⟩
theorem c_103 (w : World) : (endH w).CodeRec (.ref 102) "_law_fibonacci" := ⟨102, ho_102 w.params, _, 2311, rfl, by kernel_rfl, rfl, rfl⟩
theorem c_110 (w : World) : (endH w).CodeRec (.ref 109) "_law_spelled" := ⟨109, ho_109 w.params, _, 2319, rfl, by kernel_rfl, rfl, rfl⟩
theorem c_115 (w : World) : (endH w).CodeRec (.ref 114) "_law_by_folds" := ⟨114, ho_114 w.params, _, 2330, rfl, by kernel_rfl, rfl, rfl⟩
theorem c_120 (w : World) : (endH w).CodeRec (.ref 119) "_law_by_lengths" := ⟨119, ho_119 w.params, _, 2336, rfl, by kernel_rfl, rfl, rfl⟩
theorem c_125 (w : World) : (endH w).CodeRec (.ref 124) "_law_product" := ⟨124, ho_124 w.params, _, 2342, rfl, by kernel_rfl, rfl, rfl⟩
theorem c_130 (w : World) : (endH w).CodeRec (.ref 129) "law" := ⟨129, ho_129 w.params, _, 2348, rfl, by kernel_rfl, rfl, rfl⟩
theorem pat_end (w : World) : PatAt (endH w) 36 := ⟨35, .str (Str.ofString "(?:\\r\\n|\\n|\\r(?!\\n))") 285, #[], by kernel_rfl, ho_35 w.params, 0, by kernel_rfl, by kernel_rfl⟩
theorem es_hashed : ∀ (n t : Nat) (ps : List Pr), ∀ e ∈ (chunksOf n t ps).flatten, Hashed e
  | 0, _, _, e, h => by simp [chunksOf] at h
  | n + 1, t, ps, e, h => by
    unfold chunksOf at h
    split at h
    · simp at h
    · rw [List.flatten_cons, List.mem_append] at h
      rcases h with h | h
      · exact subEs_hashed _ _ e h
      · exact es_hashed n _ _ e h
noncomputable def b3ok (x : Int × Option (List Nat)) : Bool := match findBy Value.isInt esD.flatten.toArray x.1, x.2 with
  | none, none => true
  | some (.str s _), some l => s == ⟨l.toArray⟩
  | _, _ => false
theorem b3_all : b3T.all b3ok = true := by decide +kernel
theorem g_51 (w : World) : (endH w).get? 51 = some (dictE esD.flatten) := by kernel_rfl
theorem dict_end (w : World) (prog : Program) : ∃ f, (endH w).MapOf (intKind prog w) 51 f ∧ ∀ x ∈ b3T, match x.2 with
    | none => f x.1 = none
    | some l => ∃ t, f x.1 = some (.str ⟨l.toArray⟩ t) := by
  refine ⟨fun k => findBy Value.isInt esD.flatten.toArray k, ⟨_, esD.flatten.toArray, esD.flatten.length, g_51 w, ⟨rfl, rfl, rfl⟩, rfl, fun e he => ?_, fun k => rfl⟩, fun x hx => ?_⟩
  · obtain ⟨k, t, h1, h2⟩ := es_hashed _ _ _ e (by simpa [esD] using he)
    exact ⟨k, by rw [h1]; exact intKind_is prog w k t, h2⟩
  · have h := List.all_eq_true.mp b3_all x hx
    unfold b3ok at h
    split at h
    · rename_i e1 e2
      rw [e2]; exact e1
    · rename_i s t l e1 e2
      rw [e2]
      refine ⟨t, ?_⟩
      show findBy Value.isInt esD.flatten.toArray x.1 = _
      rw [e1, eq_of_beq h]
    · cases h
section
variable {w : World} {s₁ : Shared} {b : Addr}
/-- what stays and the letters, of a call -/
noncomputable def cxOf (w : World) (s₁ : Shared) (b : Addr) (hn : s₁.heap.NoLimit) : Cx where
  prog := pw
  w := w
  z := { n := 0, t := fun k => if k = 0 then .ref b else .none }
  ok := fun h => ∀ a o, s₁.heap.get? a = some o → h.get? a = some o
  mono := fun h h' ok k a o e => k a o (ok a o e)
  lim := fun h ok => hn.keeps ok
theorem lw_of (hn : s₁.heap.NoLimit) (hk : ∀ a o, (endH w).get? a = some o → s₁.heap.get? a = some o) : Lw (cxOf w s₁ b hn) D0 where
  names := fun h ok => ⟨(endH w).nsMap mainGlobals, (endH w).nsMap builtinsNs, ns_at (.of_isNs (l_main w)) fun o e => ok _ _ (hk _ _ e), ns_at (.of_isNs (l_blns w)) fun o e => ok _ _ (hk _ _ e),
    fun x y e => map_mem (e_names w) _ (lookup_mem e), fun x y e => by
      have := map_mem (e_blt w) _ (lookup_mem e)
      exact ⟨congrArg Prod.fst this, congrArg Prod.snd this⟩⟩
  fix := ⟨fun h ok => ⟨_, ok _ _ (hk _ _ (g_43 w)), rfl, (c_43 w).keeps fun a o e => ok _ _ (hk _ _ e)⟩⟩
  int2 := ⟨fun h ok => ⟨_, ok _ _ (hk _ _ (g_50 w)), rfl, (c_50 w).keeps fun a o e => ok _ _ (hk _ _ e)⟩⟩
  b3 := ⟨fun h ok => ⟨_, ok _ _ (hk _ _ (g_96 w)), rfl, (c_96 w).keeps fun a o e => ok _ _ (hk _ _ e)⟩⟩
  fib := ⟨fun h ok => ⟨_, ok _ _ (hk _ _ (g_103 w)), rfl, (c_103 w).keeps fun a o e => ok _ _ (hk _ _ e)⟩⟩
  spelled := ⟨fun h ok => ⟨_, ok _ _ (hk _ _ (g_110 w)), rfl, (c_110 w).keeps fun a o e => ok _ _ (hk _ _ e)⟩⟩
  folds := ⟨fun h ok => ⟨_, ok _ _ (hk _ _ (g_115 w)), rfl, (c_115 w).keeps fun a o e => ok _ _ (hk _ _ e)⟩⟩
  lengths := ⟨fun h ok => ⟨_, ok _ _ (hk _ _ (g_120 w)), rfl, (c_120 w).keeps fun a o e => ok _ _ (hk _ _ e)⟩⟩
  product := ⟨fun h ok => ⟨_, ok _ _ (hk _ _ (g_125 w)), rfl, (c_125 w).keeps fun a o e => ok _ _ (hk _ _ e)⟩⟩
  pat := fun h ok => (pat_end w).keeps fun a o e => ok _ _ (hk _ _ e)
  dict := fun h ok => by
    obtain ⟨f, ⟨o, es, ep, h1, r⟩, h2⟩ := dict_end w pw
    exact ⟨f, ⟨o, es, ep, ok _ _ (hk _ _ h1), r⟩, h2⟩
  dictNe := by decide +kernel
theorem law_of (hn : s₁.heap.NoLimit) (hk : ∀ a o, (endH w).get? a = some o → s₁.heap.get? a = some o) : FnAt (cxOf w s₁ b hn) D0.law (F_law D0) :=
  ⟨fun h ok => ⟨_, ok _ _ (hk _ _ (g_130 w)), rfl, (c_130 w).keeps fun a o e => ok _ _ (hk _ _ e)⟩⟩
end
theorem room0 : Room callerA 4 := ⟨rfl, by decide +kernel, by decide +kernel⟩
theorem walk : WalkX qv looseH (fun _ _ => True) (fun s => s.heap) endH rw'.row.toRowW dL [] (fun f vs => PySem.call f vs) := by
  intro w s₀ s₁ mg mb G Y fa o pm cd doc dV kV ho hd hcd hD hmg hg args vals as L hpre hlay hrd hwl hlo
  have Y : s₀.heap = endH w := Y
  have hk : ∀ a o, (endH w).get? a = some o → s₁.heap.get? a = some o := fun a o e => L.keeps a o (by rw [Y]; exact e)
  have hn := G.T.nolimit
  have hfa : fa = 130 := by
    have n1 : s₁.heap.Ns mainGlobals ((endH w).nsMap mainGlobals) := ns_at (.of_isNs (l_main w)) fun o e => hk _ _ e
    have := ns_one G.T.g n1
    rw [this] at hmg
    have h2 := (e_law w).symm.trans hmg
    cases h2; rfl
  subst hfa
  wrow_args hpre hlay hrd hwl hlo
  rename_i ns _ _ _ _ _ _ _ b items _ hL _ _ _ hI _ hlen _
  refine call_law (c := cxOf w s₁ b hn) (ns := ns) (D := D0) (lw_of hn hk) (law_of hn hk) ⟨b, rfl, fun h ok => ?_⟩ room0 ?_ (h₀ := s₁.heap) (fun a o e => e) (fun a o e => e) rfl fun h' tk kk => ?_
  · obtain ⟨o', e, r⟩ := hL
    exact ⟨items, ⟨o', ok _ _ e, r⟩, hI⟩
  · omega
  · refine ⟨.inl ⟨.bool true, .bool true, [], rfl, fun _ => rfl, .bool true, ?_, fun _ => ⟨List.nodup_nil, fun a h => by cases h⟩⟩, .of_keep ?_, rfl, .of_eq hg⟩
    · kernel_rfl
    · exact kk
end Mine
set_option maxHeartbeats 8000000 in
theorem PySem.Challenge.cw_ta0025_01_holds : PySem.Challenge.rw_ta0025_01.Holds :=
  Mine.holds_of Mine.walk
