import PyProof.Rows.All
import Wide.All
import OpenK.AllK
import Wide.FinOn
import Lean
import PySem.Challenge.RW_op0104_02

set_option Elab.async false
set_option linter.all false
section
open PySem PySem.W PySem.Calls PyProof.Rows
set_option maxRecDepth 100000
namespace Mine

/-- a value, as the evaluator sees it -/
inductive V where
  | none
  | bool (b : Bool)
  | int (i : Int)
  | str (x : Str)
  | ref (k : Nat)
  | ext (a : Addr)

/-- an object of the ledger -/
inductive O where
  | list (vs : List V)
  | dict (D : List (PyData × PyData))
  | range (a b : Int)

structure Wd where
  prog : Program
  w : World
  hb : Heap
  os : OsState
  mg : Str → Option Value
  mb : Str → Option Value
  c : Addr
  P : Addr
  gr : Bool
  t0 : Nat
  gk : Array GenState → Drawn → Prop
  ps0 : Array Value

abbrev Wd.M (B : Wd) : Model := model B.prog B.w

/-- a place that stays: any, but the table of the code, if that may grow -/
def Wd.NP (B : Wd) (a : Addr) : Prop := B.gr = true → a ≠ B.P
theorem np {B : Wd} {a : Addr} (h : a ≠ B.P) : B.NP a := fun _ => h

/-- the table of the code that holds the one generator expression -/
def Wd.Tab (B : Wd) (h : Heap) : Prop := ∃ more, h.IsCode B.c B.P (B.ps0 ++ more) ∧ h.TableAt B.c B.P (B.ps0 ++ more)

structure Wd.Ok (B : Wd) : Prop where
  g : B.hb.Ns mainGlobals B.mg
  b : B.hb.Ns builtinsNs B.mb
  nolimit : B.hb.NoLimit
  builtins : ∀ x : Str, x ≠ "__name__" → B.mb x = bootBuiltins x
  bmain : ∃ bm ob, B.mg "__builtins__" = some (.ref bm) ∧ bm ≠ builtinsNs ∧ B.hb.get? bm = some ob ∧ ob.cls = .type "module" ∧ ob.dict = some builtinsNs ∧ ob.data = .plain ∧ bm ≠ B.P
  pg : mainGlobals ≠ B.P
  pb : builtinsNs ≠ B.P
  ps : cStatics ≠ B.P
  pc : B.c ≠ B.P

def VR (ρ : List Addr) : V → Value → Prop
  | .none, v => v = .none
  | .bool b, v => v = .bool b
  | .int i, v => ∃ t, v = .int i t
  | .str x, v => ∃ t, v = .str x t
  | .ref k, v => ∃ a, ρ[k]? = some a ∧ v = .ref a
  | .ext a, v => v = .ref a

inductive VRs (ρ : List Addr) : List V → List Value → Prop
  | nil : VRs ρ [] []
  | cons {v v' vs vs'} : VR ρ v v' → VRs ρ vs vs' → VRs ρ (v :: vs) (v' :: vs')

theorem getElem?_app {α : Type} {l m : List α} {k : Nat} {a : α} (h : l[k]? = some a) : (l ++ m)[k]? = some a := by
  rw [List.getElem?_append_left (List.getElem?_eq_some_iff.mp h).1]; exact h

theorem VR.mono {ρ more : List Addr} : ∀ {v v'}, VR ρ v v' → VR (ρ ++ more) v v'
  | .none, _, h => h
  | .bool _, _, h => h
  | .int _, _, h => h
  | .str _, _, h => h
  | .ref _, _, ⟨a, h, e⟩ => ⟨a, getElem?_app h, e⟩
  | .ext _, _, h => h

theorem VRs.mono {ρ more : List Addr} {vs vs'} (h : VRs ρ vs vs') : VRs (ρ ++ more) vs vs' := by
  induction h with
  | nil => exact .nil
  | cons h _ ih => exact .cons h.mono ih

theorem VRs.length {ρ : List Addr} {vs vs'} (h : VRs ρ vs vs') : vs.length = vs'.length := by
  induction h with
  | nil => rfl
  | cons _ _ ih => simp [ih]

theorem VRs.get {ρ : List Addr} {vs vs'} (h : VRs ρ vs vs') : ∀ {k : Nat} {v : V}, vs[k]? = some v → ∃ v', vs'[k]? = some v' ∧ VR ρ v v' := by
  induction h with
  | nil => intro k v e; simp at e
  | cons h _ ih =>
    intro k v e
    cases k with
    | zero => simp at e; subst e; exact ⟨_, rfl, h⟩
    | succ k => simpa using ih (by simpa using e)

theorem VRs.append {ρ : List Addr} {vs vs' ws ws'} (h : VRs ρ vs vs') (k : VRs ρ ws ws') : VRs ρ (vs ++ ws) (vs' ++ ws') := by
  induction h with
  | nil => exact k
  | cons h _ ih => exact .cons h ih

theorem VRs.take {ρ : List Addr} {vs vs'} (h : VRs ρ vs vs') : ∀ n, VRs ρ (vs.take n) (vs'.take n) := by
  induction h with
  | nil => intro n; simp; exact .nil
  | cons h _ ih =>
    intro n
    cases n with
    | zero => exact .nil
    | succ n => exact .cons h (ih n)

theorem VRs.set {ρ : List Addr} {vs vs'} (h : VRs ρ vs vs') {v v'} (hv : VR ρ v v') : ∀ n, VRs ρ (vs.set n v) (vs'.set n v') := by
  induction h with
  | nil => intro n; simp; exact .nil
  | cons h k ih =>
    intro n
    cases n with
    | zero => exact .cons hv k
    | succ n => exact .cons h (ih n)

theorem VRs.one {ρ : List Addr} {v v'} (h : VR ρ v v') : VRs ρ [v] [v'] := .cons h .nil

def OR (B : Wd) (ρ : List Addr) (h : Heap) (a : Addr) : O → Prop
  | .list vs => ∃ vs' n, h.get? a = some (listOf vs'.toArray n) ∧ VRs ρ vs vs'
  | .dict D => StrTab B.prog B.w h a D
  | .range x y => ∃ t u v, IsRange h a x y 1 t u v

theorem OR.at {B : Wd} {ρ more : List Addr} {h h' : Heap} {a : Addr} {o : O} (x : OR B ρ h a o) (e : ∀ ob, h.get? a = some ob → h'.get? a = some ob) : OR B (ρ ++ more) h' a o := by
  cases o with
  | list vs => obtain ⟨vs', n, g, r⟩ := x; exact ⟨vs', n, e _ g, r.mono⟩
  | dict D => obtain ⟨lo, kvs, ⟨o, es, ep, ho, r⟩, hf⟩ := x; exact ⟨lo, kvs, ⟨o, es, ep, e _ ho, r⟩, hf⟩
  | range x y => obtain ⟨t, u, v, g⟩ := x; exact ⟨t, u, v, e _ g⟩

theorem OR.there {B : Wd} {ρ : List Addr} {h : Heap} {a : Addr} {o : O} (x : OR B ρ h a o) : ∃ ob, h.get? a = some ob := by
  cases o with
  | list vs => obtain ⟨vs', n, g, r⟩ := x; exact ⟨_, g⟩
  | dict D => obtain ⟨lo, kvs, ⟨o, es, ep, ho, r⟩, hf⟩ := x; exact ⟨_, ho⟩
  | range _ _ => obtain ⟨t, u, v, g⟩ := x; exact ⟨_, g⟩

structure SB (B : Wd) (ρ : List Addr) (H : List O) (s : Shared) : Prop where
  keep : ∀ a o, B.hb.get? a = some o → B.NP a → s.heap.get? a = some o
  fresh : ∀ a ∈ ρ, B.hb.get? a = Option.none
  len : ρ.length = H.length
  nodup : ρ.Nodup
  objs : ∀ (k : Nat) (o : O) (a : Addr), H[k]? = some o → ρ[k]? = some a → OR B ρ s.heap a o
  tab : B.Tab s.heap
  gens : B.gk s.gens s.drawn
  os : s.os = B.os
  toks : B.t0 ≤ s.toks

/-- what a step leaves as it was -/
structure Step (B : Wd) (ρ ρ' : List Addr) (s s' : Shared) : Prop where
  ext : ∃ more, ρ' = ρ ++ more ∧ ∀ a ∈ more, s.heap.get? a = Option.none
  keep : ∀ a o, s.heap.get? a = some o → a ∉ ρ → B.NP a → s'.heap.get? a = some o

theorem SB.at {B : Wd} {ρ H s} (S : SB B ρ H s) {k : Nat} {o : O} (h : H[k]? = some o) : ∃ a, ρ[k]? = some a ∧ OR B ρ s.heap a o := by
  have hk : k < ρ.length := by rw [S.len]; exact (List.getElem?_eq_some_iff.mp h).1
  exact ⟨ρ[k], List.getElem?_eq_getElem hk, S.objs k o _ h (List.getElem?_eq_getElem hk)⟩

theorem SB.mem {B : Wd} {ρ H s} (S : SB B ρ H s) {a : Addr} (h : a ∈ ρ) : ∃ ob, s.heap.get? a = some ob := by
  obtain ⟨k, hk, e⟩ := List.getElem_of_mem h
  have hk' : k < H.length := by rw [← S.len]; exact hk
  exact (S.objs k _ a (List.getElem?_eq_getElem hk') (by rw [← e]; exact List.getElem?_eq_getElem hk)).there

theorem SB.notP {B : Wd} {ρ H s} (S : SB B ρ H s) (hP : ∃ o, B.hb.get? B.P = some o) : B.P ∉ ρ := fun h => by
  obtain ⟨o, e⟩ := hP
  rw [S.fresh _ h] at e; cases e

theorem Wd.Tab.there {B : Wd} {h : Heap} (x : B.Tab h) : ∃ o, h.get? B.P = some o := by
  obtain ⟨ps, _, t⟩ := x; exact ⟨_, t.2⟩
theorem Wd.Tab.keeps {B : Wd} {h h' : Heap} (x : B.Tab h) (hk : ∀ b o, h.get? b = some o → h'.get? b = some o) : B.Tab h' := by
  obtain ⟨ps, a, b⟩ := x; exact ⟨ps, a.keeps hk, b.keeps hk⟩

theorem Step.refl {B : Wd} {ρ : List Addr} {s : Shared} : Step B ρ ρ s s := ⟨⟨[], by simp, by simp⟩, fun _ _ e _ _ => e⟩

theorem Step.mono {B : Wd} {ρ ρ' : List Addr} {s s' : Shared} (x : Step B ρ ρ' s s') {v v'} (h : VR ρ v v') : VR ρ' v v' := by
  obtain ⟨⟨m, rfl, _⟩, _⟩ := x; exact h.mono
theorem Step.monos {B : Wd} {ρ ρ' : List Addr} {s s' : Shared} (x : Step B ρ ρ' s s') {v v'} (h : VRs ρ v v') : VRs ρ' v v' := by
  obtain ⟨⟨m, rfl, _⟩, _⟩ := x; exact h.mono

theorem Step.trans {B : Wd} {ρ ρ' ρ'' : List Addr} {H' : List O} {s s' s'' : Shared} (x : Step B ρ ρ' s s') (S : SB B ρ' H' s') (y : Step B ρ' ρ'' s' s'') : Step B ρ ρ'' s s'' := by
  obtain ⟨⟨m, rfl, hm⟩, k⟩ := x
  obtain ⟨⟨m', rfl, hm'⟩, k'⟩ := y
  refine ⟨⟨m ++ m', by simp, fun a ha => ?_⟩, fun a o e na nP => ?_⟩
  · rcases List.mem_append.mp ha with h | h
    · exact hm a h
    · cases q : s.heap.get? a with
      | none => rfl
      | some o =>
        exfalso
        have hn := hm' a h
        by_cases hr : a ∈ ρ
        · obtain ⟨ob, e⟩ := S.mem (List.mem_append_left _ hr); rw [hn] at e; cases e
        · by_cases hP : a = B.P
          · subst hP; obtain ⟨ob, e⟩ := S.tab.there; rw [hn] at e; cases e
          · rw [k a o q hr (np hP)] at hn; cases hn
  · refine k' a o (k a o e na nP) (fun h => ?_) nP
    rcases List.mem_append.mp h with h | h
    · exact na h
    · rw [hm a h] at e; cases e

/-- a step that keeps every object -/
theorem SB.keeps {B : Wd} {ρ H s} (S : SB B ρ H s) {h' : Heap} {tk : Nat} (hk : ∀ b o, s.heap.get? b = some o → h'.get? b = some o) (ht : B.t0 ≤ tk) :
    SB B ρ H { s with heap := h', toks := tk } :=
  ⟨fun a o e n => hk _ _ (S.keep a o e n), S.fresh, S.len, S.nodup, fun k o a e e' => by have := (S.objs k o a e e').at (more := []) (h' := h') fun ob e => hk _ _ e; simpa using this, S.tab.keeps hk, S.gens, S.os, ht⟩
theorem Step.keeps {B : Wd} {ρ : List Addr} {s : Shared} {h' : Heap} {tk : Nat} (hk : ∀ b o, s.heap.get? b = some o → h'.get? b = some o) : Step B ρ ρ s { s with heap := h', toks := tk } :=
  ⟨⟨[], by simp, by simp⟩, fun a o e _ _ => hk a o e⟩

/-- a step that keeps every object, and one object more for the ledger -/
theorem SB.more {B : Wd} {ρ H s} (S : SB B ρ H s) {h' : Heap} {tk : Nat} {a : Addr} {o : O} (hk : ∀ b o, s.heap.get? b = some o → h'.get? b = some o) (ht : B.t0 ≤ tk)
    (hn : s.heap.get? a = Option.none) (ho : OR B (ρ ++ [a]) h' a o) : SB B (ρ ++ [a]) (H ++ [o]) { s with heap := h', toks := tk } := by
  have na : a ∉ ρ := fun h => by obtain ⟨ob, e⟩ := S.mem h; rw [hn] at e; cases e
  refine ⟨fun a o e n => hk _ _ (S.keep a o e n), fun b hb => ?_, by simp [S.len], ?_, fun k o' b e e' => ?_, S.tab.keeps hk, S.gens, S.os, ht⟩
  · rcases List.mem_append.mp hb with h | h
    · exact S.fresh b h
    · rw [List.mem_singleton.mp h]
      cases q : B.hb.get? a with
      | none => rfl
      | some o' =>
        by_cases hP : a = B.P
        · subst hP; obtain ⟨ob, e⟩ := S.tab.there; rw [hn] at e; cases e
        · rw [S.keep a o' q (np hP)] at hn; cases hn
  · rw [List.nodup_append]
    refine ⟨S.nodup, by simp, fun x hx y hy => ?_⟩
    rw [List.mem_singleton.mp hy]; rintro rfl; exact na hx
  · by_cases hlt : k < H.length
    · rw [List.getElem?_append_left hlt] at e
      rw [List.getElem?_append_left (by rw [S.len]; exact hlt)] at e'
      exact (S.objs k o' b e e').at fun ob e => hk _ _ e
    · have hk1 : k < (H ++ [o]).length := (List.getElem?_eq_some_iff.mp e).1
      have hk2 : k = H.length := by simp at hk1; omega
      subst hk2
      rw [List.getElem?_append_right (Nat.le_refl _)] at e
      rw [List.getElem?_append_right (by rw [S.len]; exact Nat.le_refl _), S.len] at e'
      simp at e e'
      subst e e'
      exact ho
theorem Step.more {B : Wd} {ρ : List Addr} {s : Shared} {h' : Heap} {tk : Nat} {a : Addr} (hk : ∀ b o, s.heap.get? b = some o → h'.get? b = some o) (hn : s.heap.get? a = Option.none) : Step B ρ (ρ ++ [a]) s { s with heap := h', toks := tk } :=
  ⟨⟨[a], rfl, fun b hb => by rw [List.mem_singleton.mp hb]; exact hn⟩, fun a o e _ _ => hk a o e⟩

theorem nodup_inj {l : List Addr} (hn : l.Nodup) {i j : Nat} (hi : i < l.length) (hj : j < l.length) (e : l[i] = l[j]) : i = j := by
  have h := List.pairwise_iff_getElem.mp hn
  rcases Nat.lt_trichotomy i j with x | x | x
  · exact absurd e (h i j hi hj x)
  · exact x
  · exact absurd e.symm (h j i hj hi x)
/-- one object of the ledger is changed -/
theorem SB.set {B : Wd} {ρ H s} (S : SB B ρ H s) (hP : B.P ∉ ρ) (hc : B.c ∉ ρ) {h' : Heap} {tk : Nat} {k : Nat} {a : Addr} {o : O} (hka : ρ[k]? = some a) (hk : ∀ b o, b ≠ a → s.heap.get? b = some o → h'.get? b = some o) (ht : B.t0 ≤ tk)
    (ho : OR B ρ h' a o) : SB B ρ (H.set k o) { s with heap := h', toks := tk } := by
  have ha : a ∈ ρ := List.mem_of_getElem? hka
  have hkl : k < ρ.length := (List.getElem?_eq_some_iff.mp hka).1
  refine ⟨fun b ob e n => hk _ _ (fun q => ?_) (S.keep b ob e n), S.fresh, by simp [S.len], S.nodup, fun j o' b e e' => ?_, ?_, S.gens, S.os, ht⟩
  · subst q; rw [S.fresh _ ha] at e; cases e
  · by_cases hj : j = k
    · subst hj
      rw [List.getElem?_set_self (by rw [← S.len]; exact hkl)] at e
      rw [hka] at e'
      cases e; cases e'
      exact ho
    · rw [List.getElem?_set_ne (Ne.symm hj)] at e
      have hba : b ≠ a := fun q => by
        subst q
        obtain ⟨h1, h1'⟩ := List.getElem?_eq_some_iff.mp e'
        obtain ⟨h2, h2'⟩ := List.getElem?_eq_some_iff.mp hka
        exact hj (nodup_inj S.nodup h1 h2 (h1'.trans h2'.symm))
      have := (S.objs j o' b e e').at (more := []) (h' := h') fun ob e => hk _ _ hba e
      simpa using this
  · obtain ⟨ps, x, y⟩ := S.tab
    have n1 : B.c ≠ a := fun q => hc (q ▸ ha)
    have n2 : B.P ≠ a := fun q => hP (q ▸ ha)
    exact ⟨ps, x.extBut (fun b o hb e => hk b o hb e) n1 n2, y.extBut (fun b o hb e => hk b o hb e) n1 n2⟩
theorem Step.set {B : Wd} {ρ : List Addr} {s : Shared} {h' : Heap} {tk : Nat} {a : Addr} (ha : a ∈ ρ) (hk : ∀ b o, b ≠ a → s.heap.get? b = some o → h'.get? b = some o) : Step B ρ ρ s { s with heap := h', toks := tk } :=
  ⟨⟨[], by simp, by simp⟩, fun b o e nb _ => hk b o (fun q => nb (q ▸ ha)) e⟩

def O.Closed (n : Nat) : O → Prop
  | .list vs => ∀ k, V.ref k ∈ vs → k < n
  | .dict _ => True
  | .range _ _ => True

theorem VRs.closed {ρ : List Addr} {vs vs'} (h : VRs ρ vs vs') : ∀ k, V.ref k ∈ vs → k < ρ.length := by
  induction h with
  | nil => intro k hk; cases hk
  | cons h _ ih =>
    intro k hk
    rcases List.mem_cons.mp hk with e | e
    · subst e; obtain ⟨a, e, _⟩ := h; exact (List.getElem?_eq_some_iff.mp e).1
    · exact ih k e
theorem OR.closed {B : Wd} {ρ : List Addr} {h : Heap} {a : Addr} {o : O} (x : OR B ρ h a o) : o.Closed ρ.length := by
  cases o with
  | list vs => obtain ⟨vs', n, g, r⟩ := x; exact r.closed
  | dict es => trivial
  | range _ _ => trivial
theorem SB.closed {B : Wd} {ρ H s} (S : SB B ρ H s) : ∀ o ∈ H, o.Closed H.length := by
  intro o ho
  obtain ⟨k, hk, e⟩ := List.getElem_of_mem ho
  obtain ⟨a, ha, x⟩ := S.at (k := k) (o := o) (by rw [← e]; exact List.getElem?_eq_getElem hk)
  rw [← S.len]; exact x.closed

theorem VR.back {ρ more : List Addr} : ∀ {v v'}, VR (ρ ++ more) v v' → (∀ k, v = .ref k → k < ρ.length) → VR ρ v v'
  | .none, _, h, _ => h
  | .bool _, _, h, _ => h
  | .int _, _, h, _ => h
  | .str _, _, h, _ => h
  | .ref k, _, ⟨a, h, e⟩, hc => ⟨a, by rw [List.getElem?_append_left (hc k rfl)] at h; exact h, e⟩
  | .ext _, _, h, _ => h
theorem VRs.back {ρ more : List Addr} {vs vs'} (h : VRs (ρ ++ more) vs vs') (hc : ∀ k, V.ref k ∈ vs → k < ρ.length) : VRs ρ vs vs' := by
  induction h with
  | nil => exact .nil
  | cons h _ ih => exact .cons (h.back fun k e => hc k (by rw [e]; exact .head _)) (ih fun k hk => hc k (.tail _ hk))
theorem OR.back {B : Wd} {ρ more : List Addr} {h : Heap} {a : Addr} {o : O} (x : OR B (ρ ++ more) h a o) (hc : o.Closed ρ.length) : OR B ρ h a o := by
  cases o with
  | list vs => obtain ⟨vs', n, g, r⟩ := x; exact ⟨vs', n, g, r.back hc⟩
  | dict es => exact x
  | range _ _ => exact x

/-- the last objects of the ledger are forgotten -/
theorem SB.drop {B : Wd} {ρ more : List Addr} {H G : List O} {s} (S : SB B (ρ ++ more) (H ++ G) s) (hl : ρ.length = H.length) (hc : ∀ o ∈ H, o.Closed H.length) : SB B ρ H s :=
  ⟨S.keep, fun a ha => S.fresh a (List.mem_append_left _ ha), hl, (List.nodup_append.mp S.nodup).1, fun k o a e e' =>
    (S.objs k o a (getElem?_app e) (getElem?_app e')).back (by rw [hl]; exact hc o (List.mem_of_getElem? e)), S.tab, S.gens, S.os, S.toks⟩
theorem Step.drop {B : Wd} {ρ ρ₁ more : List Addr} {s s' : Shared} (x : Step B ρ ((ρ ++ ρ₁) ++ more) s s') : Step B ρ (ρ ++ ρ₁) s s' := by
  obtain ⟨⟨m, e, hm⟩, k⟩ := x
  rw [List.append_assoc] at e
  have e := List.append_cancel_left e
  subst e
  exact ⟨⟨ρ₁, rfl, fun a ha => hm a (List.mem_append_left _ ha)⟩, k⟩

structure AOk (n : Nat) (A : Around) : Prop where
  h : A.handled = Option.none
  d : A.depth + n < 900
  u : A.units + 20 * n < 9000

theorem AOk.le {n m : Nat} {A : Around} (x : AOk n A) (h : m ≤ n) : AOk m A := ⟨x.h, by have := x.d; omega, by have := x.u; omega⟩
theorem AOk.room {n : Nat} {A : Around} (x : AOk n A) : A.depth < recursionLimit := by have := x.d; simp only [recursionLimit]; omega
theorem AOk.units {n : Nat} {A : Around} (x : AOk n A) : A.units < cLine := by have := x.u; rw [cLine_is]; omega
theorem AOk.deeper {n : Nat} {A : Around} {env : Env} (x : AOk (n + 1) A) : AOk n (A.deeper env) := ⟨x.h, by have := x.d; show A.depth + 1 + n < 900; omega, by have := x.u; show A.units + 3 + 20 * n < 9000; omega⟩

end Mine

end
section
open PySem PySem.W PySem.Calls PyProof.Rows
set_option maxRecDepth 100000
namespace Mine

abbrev Loc := Str → Option V

structure LocR (B : Wd) (env : Env) (loc : Loc) (ρ : List Addr) (h : Heap) : Prop where
  kind : env.scope.kind = .function
  glob : env.globals = mainGlobals
  bu : env.builtins = builtinsNs
  nL : env.locals ∉ ρ
  nP : env.locals ≠ B.P
  nB : B.hb.get? env.locals = none
  cells : ∀ x c, env.cells.lookup x = some c → c ∉ ρ ∧ c ≠ B.P ∧ c ≠ env.locals ∧ B.hb.get? c = none ∧ ∃ v, h.IsCell c v
  apart : ∀ x y c, env.cells.lookup x = some c → env.cells.lookup y = some c → x = y
  ns : ∃ m, h.Ns env.locals m ∧ ∀ x v, loc x = some v →
    (env.kindOf x = some .local ∧ ∃ v', m x = some v' ∧ VR ρ v v') ∨
    ((env.kindOf x = some .cell ∨ env.kindOf x = some .free) ∧ ∃ c v', env.cells.lookup x = some c ∧ h.IsCell c (some v') ∧ VR ρ v v')

theorem LocR.step {B : Wd} {env loc ρ ρ'} {s s' : Shared} (L : LocR B env loc ρ s.heap) (x : Step B ρ ρ' s s') : LocR B env loc ρ' s'.heap := by
  obtain ⟨⟨more, rfl, hm⟩, k⟩ := x
  obtain ⟨m, hn, hv⟩ := L.ns
  have hLo : ∃ o, s.heap.get? env.locals = some o := let ⟨o, _, _, e, _⟩ := hn; ⟨o, e⟩
  have new : ∀ a o, s.heap.get? a = some o → a ∉ ρ → a ∉ ρ ++ more := fun a o e n h => by
    rcases List.mem_append.mp h with h | h
    · exact n h
    · rw [hm a h] at e; cases e
  have cell : ∀ x c v, env.cells.lookup x = some c → s.heap.IsCell c v → s'.heap.IsCell c v := fun x c v e ⟨o, ho, hd⟩ =>
    ⟨o, k c o ho (L.cells x c e).1 (np (L.cells x c e).2.1), hd⟩
  refine ⟨L.kind, L.glob, L.bu, (let ⟨o, e⟩ := hLo; new _ o e L.nL), L.nP, L.nB, fun x c e => ?_, L.apart, m, hn.at' (fun o e => k _ o e L.nL (np L.nP)), fun x v e => ?_⟩
  · obtain ⟨h1, h2, h3, h4, v, hc⟩ := L.cells x c e
    obtain ⟨o, ho, hd⟩ := id hc
    exact ⟨new c o ho h1, h2, h3, h4, v, cell x c v e hc⟩
  · rcases hv x v e with ⟨a, v', b, c⟩ | ⟨a, cc, v', b, c, d⟩
    · exact .inl ⟨a, v', b, c.mono⟩
    · exact .inr ⟨a, cc, v', b, cell _ _ _ b c, d.mono⟩

section
variable (B : Wd) (n : Nat)

/-- an expression's weakest precondition, over the ledger -/
def EW (env : Env) (loc : Loc) (e : Expr) (H : List O) (Q : V → List O → Prop) : Prop :=
  ∀ (A : Around) (E : Value → Shared → Prop) (s : Shared) (ρ : List Addr) (QQ : Value → Shared → Prop), AOk n A → SB B ρ H s → LocR B env loc ρ s.heap →
    (∀ v v' H' ρ' s', Q v H' → VR ρ' v v' → SB B ρ' H' s' → Step B ρ ρ' s s' → QQ v' s') → wpAny B.M A (eval e env) QQ E s

def EWs (env : Env) (loc : Loc) (es : List Expr) (H : List O) (Q : List V → List O → Prop) : Prop :=
  ∀ (A : Around) (E : Value → Shared → Prop) (s : Shared) (ρ : List Addr) (QQ : List Value → Shared → Prop) (pos : Pos), AOk n A → SB B ρ H s → LocR B env loc ρ s.heap →
    (∀ v v' H' ρ' s', Q v H' → VRs ρ' v v' → SB B ρ' H' s' → Step B ρ ρ' s s' → QQ v' s') → wpAny B.M A (spliced (backTo pos (starEach es env))) QQ E s

def TW (env : Env) (loc : Loc) (e : Expr) (H : List O) (Q : Bool → List O → Prop) : Prop :=
  ∀ (A : Around) (E : Value → Shared → Prop) (s : Shared) (ρ : List Addr) (QQ : Bool → Shared → Prop), AOk n A → SB B ρ H s → LocR B env loc ρ s.heap →
    (∀ b H' ρ' s', Q b H' → SB B ρ' H' s' → Step B ρ ρ' s s' → QQ b s') → wpAny B.M A (isTrue e env (eval e env)) QQ E s

/-- a primitive of two values -/
def PW2 (t : Value → Value → Sem Value) (a b : V) (H : List O) (Q : V → List O → Prop) : Prop :=
  ∀ (A : Around) (E : Value → Shared → Prop) (s : Shared) (ρ : List Addr) (a' b' : Value) (QQ : Value → Shared → Prop), AOk n A → SB B ρ H s → VR ρ a a' → VR ρ b b' →
    (∀ v v' H' ρ' s', Q v H' → VR ρ' v v' → SB B ρ' H' s' → Step B ρ ρ' s s' → QQ v' s') → wpAny B.M A (t a' b') QQ E s
/-- the truth of a value -/
def TV (v : V) (H : List O) (Q : Bool → List O → Prop) : Prop :=
  ∀ (A : Around) (E : Value → Shared → Prop) (s : Shared) (ρ : List Addr) (v' : Value) (QQ : Bool → Shared → Prop), AOk n A → SB B ρ H s → VR ρ v v' →
    (∀ b H' ρ' s', Q b H' → SB B ρ' H' s' → Step B ρ ρ' s s' → QQ b s') → wpAny B.M A (truthy v') QQ E s
/-- a call -/
def CW (f : Value) (vs : List V) (H : List O) (Q : V → List O → Prop) : Prop :=
  ∀ (A : Around) (E : Value → Shared → Prop) (s : Shared) (ρ : List Addr) (vs' : List Value) (QQ : Value → Shared → Prop), AOk n A → SB B ρ H s → VRs ρ vs vs' →
    (∀ v v' H' ρ' s', Q v H' → VR ρ' v v' → SB B ρ' H' s' → Step B ρ ρ' s s' → QQ v' s') → wpAny B.M A (call f vs') QQ E s
end

section
variable {B : Wd} {n : Nat} {env : Env} {loc : Loc} {H : List O} {Q : V → List O → Prop}

theorem EW.mono {e : Expr} {Q' : V → List O → Prop} (h : EW B n env loc e H Q) (hq : ∀ v H', Q v H' → Q' v H') : EW B n env loc e H Q' :=
  fun A E s ρ QQ hA S L k => h A E s ρ QQ hA S L fun v v' H' ρ' s' q => k v v' H' ρ' s' (hq _ _ q)
theorem CW.mono {f : Value} {vs : List V} {Q' : V → List O → Prop} (h : CW B n f vs H Q) (hq : ∀ v H', Q v H' → Q' v H') : CW B n f vs H Q' :=
  fun A E s ρ vs' QQ hA S L k => h A E s ρ vs' QQ hA S L fun v v' H' ρ' s' q => k v v' H' ρ' s' (hq _ _ q)
theorem CW.lift {m : Nat} {f : Value} {vs : List V} (h : CW B m f vs H Q) (hm : m ≤ n) : CW B n f vs H Q :=
  fun A E s ρ vs' QQ hA => h A E s ρ vs' QQ (hA.le hm)

theorem SB.tok {ρ H s} (S : SB B ρ H s) {tk : Nat} (ht : B.t0 ≤ tk) : SB B ρ H { s with toks := tk } := S.keeps (h' := s.heap) (fun _ _ e => e) ht
theorem Step.tok {ρ : List Addr} {s : Shared} {tk : Nat} : Step B ρ ρ s { s with toks := tk } := Step.keeps (h' := s.heap) fun _ _ e => e

/-! leaves -/
theorem EW.cint {i : Int} {k pos} (q : Q (.int i) H) : EW B n env loc (.Constant (.int i) k pos) H Q := fun A E s ρ QQ hA S L kk =>
  wpAny_Constant_int (kk _ _ _ ρ _ q ⟨s.toks, rfl⟩ (S.tok (by have := S.toks; omega)) Step.tok)
theorem EW.cstr {x : Str} {k pos} (q : Q (.str x) H) : EW B n env loc (.Constant (.str x) k pos) H Q := fun A E s ρ QQ hA S L kk =>
  Constant_str (kk _ _ _ ρ _ q ⟨s.toks, rfl⟩ (S.tok (by have := S.toks; omega)) Step.tok)
theorem EW.cbool {b : Bool} {k pos} (q : Q (.bool b) H) : EW B n env loc (.Constant (.bool b) k pos) H Q := fun A E s ρ QQ hA S L kk =>
  wpAny_pure (kk _ _ _ ρ _ q rfl S Step.refl)
theorem EW.cnone {k pos} (q : Q .none H) : EW B n env loc (.Constant .none k pos) H Q := fun A E s ρ QQ hA S L kk =>
  wpAny_pure (kk _ _ _ ρ _ q rfl S Step.refl)

theorem EW.name {x : Str} {pos : Pos} {v : V} (hv : loc x = some v) (q : Q v H) (hd : (x == ("__debug__" : Str)) = false := by decide) (hc : (x == ("__classdict__" : Str)) = false := by decide) :
    EW B n env loc (.Name x pos) H Q := fun A E s ρ QQ hA S L kk => by
  obtain ⟨m, hn, hl⟩ := L.ns
  rcases hl x v hv with ⟨a, v', b, c⟩ | ⟨a, cc, v', b, c, d⟩
  · exact wpAny_Name (wpAny_loadName_local L.kind a hn b (kk _ _ _ ρ _ q c S Step.refl)) hd
  · rcases a with a | a
    · exact wpAny_Name (wpAny_loadName_cell L.kind a b c (kk _ _ _ ρ _ q d S Step.refl)) hd
    · exact wpAny_Name (wpAny_loadName_free L.kind a b c (kk _ _ _ ρ _ q d S Step.refl) hc) hd

theorem SB.ns {ρ H s} (S : SB B ρ H s) {a : Addr} {m} (h : B.hb.Ns a m) (hP : a ≠ B.P) : s.heap.Ns a m := h.at' fun o e => S.keep a o e (np hP)

theorem wpAny_global {A : Around} {E : Value → Shared → Prop} {s : Shared} {ρ : List Addr} {x : Str} {pos : Pos} {v : Value} {QQ : Value → Shared → Prop} (W : B.Ok) (S : SB B ρ H s) (L : LocR B env loc ρ s.heap)
    (hk : env.kindOf x = some .globalImplicit) (hv : B.mg x = some v) (h : QQ v s) (hd : (x == ("__debug__" : Str)) = false) : wpAny B.M A (eval (.Name x pos) env) QQ E s :=
  Name_function_global L.kind hk (loadGlobal_global (by rw [L.glob]; exact S.ns W.g W.pg) hv h) hd
theorem wpAny_builtin {A : Around} {E : Value → Shared → Prop} {s : Shared} {ρ : List Addr} {x : Str} {pos : Pos} {v : Value} {QQ : Value → Shared → Prop} (W : B.Ok) (S : SB B ρ H s) (L : LocR B env loc ρ s.heap)
    (hk : env.kindOf x = some .globalImplicit) (hg : B.mg x = none) (hn : x ≠ "__name__") (hv : bootBuiltins x = some v) (h : QQ v s) (hd : (x == ("__debug__" : Str)) = false) : wpAny B.M A (eval (.Name x pos) env) QQ E s :=
  Name_function_global L.kind hk (loadGlobal_builtin (by rw [L.glob]; exact S.ns W.g W.pg) hg (by rw [L.bu]; exact S.ns W.b W.pb) ((W.builtins x hn).trans hv) h) hd

/-- what a name of the top stands for -/
inductive Glob (B : Wd) (x : Str) : Value → Prop
  | top {v} : B.mg x = some v → Glob B x v
  | boot {v} : B.mg x = none → x ≠ "__name__" → bootBuiltins x = some v → Glob B x v

theorem wpAny_glob {A : Around} {E : Value → Shared → Prop} {s : Shared} {ρ : List Addr} {x : Str} {pos : Pos} {v : Value} {QQ : Value → Shared → Prop} (W : B.Ok) (S : SB B ρ H s) (L : LocR B env loc ρ s.heap)
    (hk : env.kindOf x = some .globalImplicit) (hv : Glob B x v) (h : QQ v s) (hd : (x == ("__debug__" : Str)) = false) : wpAny B.M A (eval (.Name x pos) env) QQ E s := by
  cases hv with
  | top e => exact wpAny_global W S L hk e h hd
  | boot e1 e2 e3 => exact wpAny_builtin W S L hk e1 e2 e3 h hd

/-! composites -/
theorem EW.binop {l r : Expr} {op : Operator} {pos : Pos} (h : EW B n env loc l H fun a H1 => EW B n env loc r H1 fun b H2 => PW2 B n (binaryOp op) a b H2 Q) : EW B n env loc (.BinOp l op r pos) H Q :=
  fun A E s ρ QQ hA S L kk => wpAny_BinOp (h A E s ρ _ hA S L fun a a' H1 ρ1 s1 q va S1 st1 => q A E s1 ρ1 _ hA S1 (L.step st1) fun b b' H2 ρ2 s2 q2 vb S2 st2 =>
    q2 A E s2 ρ2 a' b' _ hA S2 (st2.mono va) vb fun v v' H3 ρ3 s3 q3 vv S3 st3 => kk v v' H3 ρ3 s3 q3 vv S3 ((st1.trans S1 st2).trans S2 st3))

theorem EW.compare {l r : Expr} {op : CmpOp} {pos : Pos} (h : EW B n env loc l H fun a H1 => EW B n env loc r H1 fun b H2 => PW2 B n (compareOp op) a b H2 Q)
    (hm : behindInMarks op r = false := by with_unfolding_all rfl) : EW B n env loc (.Compare l [op] [r] pos) H Q :=
  fun A E s ρ QQ hA S L kk => wpAny_Compare1 (h A E s ρ _ hA S L fun a a' H1 ρ1 s1 q va S1 st1 => q A E s1 ρ1 _ hA S1 (L.step st1) fun b b' H2 ρ2 s2 q2 vb S2 st2 =>
    q2 A E s2 ρ2 a' b' _ hA S2 (st2.mono va) vb fun v v' H3 ρ3 s3 q3 vv S3 st3 => kk v v' H3 ρ3 s3 q3 vv S3 ((st1.trans S1 st2).trans S2 st3)) hm

theorem TW.compare {l r : Expr} {op : CmpOp} {pos : Pos} {Q : Bool → List O → Prop} (h : EW B n env loc l H fun a H1 => EW B n env loc r H1 fun b H2 => PW2 B n (compareOp op) a b H2 fun v H3 => TV B n v H3 Q)
    (hm : behindInMarks op r = false := by with_unfolding_all rfl) : TW B n env loc (.Compare l [op] [r] pos) H Q :=
  fun A E s ρ QQ hA S L kk => wpAny_isTrue_Compare1 (h A E s ρ _ hA S L fun a a' H1 ρ1 s1 q va S1 st1 => q A E s1 ρ1 _ hA S1 (L.step st1) fun b b' H2 ρ2 s2 q2 vb S2 st2 =>
    q2 A E s2 ρ2 a' b' _ hA S2 (st2.mono va) vb fun v v' H3 ρ3 s3 q3 vv S3 st3 => q3 A E s3 ρ3 v' _ hA S3 vv fun b H4 ρ4 s4 q4 S4 st4 => kk b H4 ρ4 s4 q4 S4 (((st1.trans S1 st2).trans S2 st3).trans S3 st4)) hm

theorem TV.bool {b : Bool} {Q : Bool → List O → Prop} (q : Q b H) : TV B n (.bool b) H Q := fun A E s ρ v' QQ hA S hv kk => by
  obtain rfl := hv
  exact wpAny_truthy_bool (kk b H ρ s q S Step.refl)

theorem TW.not {e : Expr} {pos : Pos} {Q : Bool → List O → Prop} (h : TW B n env loc e H fun b H1 => Q (!b) H1) : TW B n env loc (.UnaryOp .Not e pos) H Q :=
  fun A E s ρ QQ hA S L kk => by
    rw [arm_isTrue_UnaryOp]
    exact wpAny_bind (h A E s ρ _ hA S L fun b H1 ρ1 s1 q S1 st1 => wpAny_pure (kk (!b) H1 ρ1 s1 q S1 st1))

theorem TW.and2 {a b : Expr} {pos : Pos} {Q : Bool → List O → Prop} (h : TW B n env loc a H fun x H1 => cond x (TW B n env loc b H1 Q) (Q false H1)) : TW B n env loc (.BoolOp .And [a, b] pos) H Q :=
  fun A E s ρ QQ hA S L kk => by
    rw [arm_isTrue_BoolOp, arm_allTrue_cons]
    refine wpAny_bind (h A E s ρ _ hA S L fun x H1 ρ1 s1 q S1 st1 => ?_)
    cases x with
    | false => exact wpAny_pure (kk false H1 ρ1 s1 q S1 st1)
    | true =>
      show wpAny _ _ (allTrue .And [b] env) _ _ _
      rw [arm_allTrue_cons]
      refine wpAny_bind (q A E s1 ρ1 _ hA S1 (L.step st1) fun y H2 ρ2 s2 q2 S2 st2 => ?_)
      cases y with
      | false => exact wpAny_pure (kk false H2 ρ2 s2 q2 S2 (st1.trans S1 st2))
      | true => exact wpAny_pure (kk true H2 ρ2 s2 q2 S2 (st1.trans S1 st2))
theorem TW.or2 {a b : Expr} {pos : Pos} {Q : Bool → List O → Prop} (h : TW B n env loc a H fun x H1 => cond x (Q true H1) (TW B n env loc b H1 Q)) : TW B n env loc (.BoolOp .Or [a, b] pos) H Q :=
  fun A E s ρ QQ hA S L kk => by
    rw [arm_isTrue_BoolOp, arm_allTrue_cons]
    refine wpAny_bind (h A E s ρ _ hA S L fun x H1 ρ1 s1 q S1 st1 => ?_)
    cases x with
    | true => exact wpAny_pure (kk true H1 ρ1 s1 q S1 st1)
    | false =>
      show wpAny _ _ (allTrue .Or [b] env) _ _ _
      rw [arm_allTrue_cons]
      refine wpAny_bind (q A E s1 ρ1 _ hA S1 (L.step st1) fun y H2 ρ2 s2 q2 S2 st2 => ?_)
      cases y with
      | false => exact wpAny_pure (kk false H2 ρ2 s2 q2 S2 (st1.trans S1 st2))
      | true => exact wpAny_pure (kk true H2 ρ2 s2 q2 S2 (st1.trans S1 st2))

/-- a test that is a plain expression -/
theorem TW.plain {e : Expr} {Q : Bool → List O → Prop} (h : EW B n env loc e H fun v H1 => TV B n v H1 Q)
    (he : ∀ t : Sem Value, isTrue e env t = (do let v ← t; standAt e.pos; holding [v] (truthy v)) := by intro _; rfl) : TW B n env loc e H Q :=
  fun A E s ρ QQ hA S L kk => by
    rw [he]
    exact wpAny_bind (h A E s ρ _ hA S L fun v v' H1 ρ1 s1 q vv S1 st1 => wpAny_bind (wpAny_standAt (wpAny_holding (q A E s1 ρ1 v' _ hA S1 vv fun b H2 ρ2 s2 q2 S2 st2 => kk b H2 ρ2 s2 q2 S2 (st1.trans S1 st2)))))

theorem EW.ifexp {t a b : Expr} {pos : Pos} (h : TW B n env loc t H fun x H1 => cond x (EW B n env loc a H1 Q) (EW B n env loc b H1 Q)) : EW B n env loc (.IfExp t a b pos) H Q :=
  fun A E s ρ QQ hA S L kk => by
    rw [arm_eval_IfExp]
    refine wpAny_bind (h A E s ρ _ hA S L fun x H1 ρ1 s1 q S1 st1 => ?_)
    cases x with
    | true => exact q A E s1 ρ1 _ hA S1 (L.step st1) fun v v' H2 ρ2 s2 q2 vv S2 st2 => kk v v' H2 ρ2 s2 q2 vv S2 (st1.trans S1 st2)
    | false => exact q A E s1 ρ1 _ hA S1 (L.step st1) fun v v' H2 ρ2 s2 q2 vv S2 st2 => kk v v' H2 ρ2 s2 q2 vv S2 (st1.trans S1 st2)

theorem EWs.nil {Q : List V → List O → Prop} (q : Q [] H) : EWs B n env loc [] H Q := fun A E s ρ QQ pos hA S L kk => spliced_nil (kk _ _ _ ρ _ q .nil S Step.refl)
theorem EWs.cons {e : Expr} {rest : List Expr} {Q : List V → List O → Prop} (h : EW B n env loc e H fun v H1 => EWs B n env loc rest H1 fun vs H2 => Q (v :: vs) H2)
    (he : starEach (e :: rest) env = (false, eval e env) :: starEach rest env := by rfl) : EWs B n env loc (e :: rest) H Q := fun A E s ρ QQ pos hA S L kk => by
  rw [he]
  exact spliced_cons (h A E s ρ _ hA S L fun v v' H1 ρ1 s1 q vv S1 st1 => q A E s1 ρ1 _ pos hA S1 (L.step st1) fun vs vs' H2 ρ2 s2 q2 vvs S2 st2 => kk _ _ _ _ _ q2 (.cons (st2.mono vv) vvs) S2 (st1.trans S1 st2))

/-- a thing of the top that is called -/
inductive Callee (B : Wd) : Value → Prop
  | builtin (id : String) : Callee B (.builtin id)
  | type (T : String) : Callee B (.type T)
  | fn {a : Addr} {o : Obj} {fd : FuncData} : B.hb.get? a = some o → o.data = .func fd → a ≠ B.P → Callee B (.ref a)
  | bound {a : Addr} {o : Obj} {vs : Array Value} : B.hb.get? a = some o → o.data = .fields vs → o.cls = .type "builtin_function_or_method" → a ≠ B.P → Callee B (.ref a)

theorem wpAny_callWith {A : Around} {E : Value → Shared → Prop} {s : Shared} {f : Value} {first : List Value} {args : List (Bool × Sem Value)} {pos : Pos} {QQ : Value → Shared → Prop} (hf : Callee B f) (hplain : args.any (·.1) = false)
    (h : wpAny B.M A (evalArgs f true args []) (fun a s₁ => (∀ b o, B.hb.get? b = some o → B.NP b → s₁.heap.get? b = some o) ∧ wpAny B.M A (call f (first ++ a.pos) a.kw) QQ E s₁) E s) : wpAny B.M A (callWith pos f first args []) QQ E s := by
  cases hf with
  | builtin id => exact callWith_builtin hplain (wpAny_mono h (fun _ _ x => x.2) fun _ _ x => x)
  | type T => exact PyProof.Rows.callWith_type hplain (wpAny_mono h (fun _ _ x => x.2) fun _ _ x => x)
  | fn e d nP => exact callWith_function (wpAny_mono h (fun _ _ x => ⟨⟨x.1 _ _ e (np nP), d⟩, x.2⟩) fun _ _ x => x)
  | @bound a o vs e d c nP =>
    refine callWith_of (P := fun h => h.get? a = some o) (by simpa using hplain) (fun h hh => ⟨.machine, .inr (.inl rfl), ?_⟩) (wpAny_mono h (fun _ _ x => ⟨x.1 _ _ e (np nP), x.2⟩) fun _ _ x => x)
    have : keeperOf (.ref a) = (load a >>= fun o => match o.data with
      | .func _ => pure .frame
      | .cls _ => (do return if (← specialOf (.ref a) "__call__") == some (.builtin "type.__call__") then .machine else .caller)
      | .fields vs => (do
        if o.cls != .type "method" then
          return if o.cls == .type "builtin_function_or_method" || o.cls == .type "method-wrapper" then .machine else .caller
        let .ref g := vs.getD 0 .none | return .machine
        return match (← load g).data with | .func _ => .boundFrame | _ => .caller)
      | _ => pure .caller) := rfl
    rw [this]
    refine (Looks.ld (part := none) hh).andThen ?_
    rw [d, c]
    exact .now

theorem EW.call {f : Str} {fv : Value} {fpos pos : Pos} {e : Expr} {rest : List Expr} (W : B.Ok) (hg : Glob B f fv) (hf : Callee B fv) (h : EWs B n env loc (e :: rest) H fun vs H1 => CW B n fv vs H1 Q)
    (hk : env.kindOf f = some .globalImplicit := by rfl) (hd : (f == ("__debug__" : Str)) = false := by decide)
    (he : starEach (e :: rest) env = (false, eval e env) :: starEach rest env := by rfl) (hplain : (backTo pos (starEach rest env)).any (·.1) = false := by rfl)
    (hn : eval (.Call (.Name f fpos) (e :: rest) [] pos) env = (do callWith pos (← eval (.Name f fpos) env) [] (backTo pos (starEach (e :: rest) env)) (backToKw pos (keywordEach [] env))) := by rfl) :
    EW B n env loc (.Call (.Name f fpos) (e :: rest) [] pos) H Q := fun A E s ρ QQ hA S L kk => by
  rw [hn]
  refine wpAny_bind (wpAny_glob W S L hk hg ?_ hd)
  have hp : (backTo pos (starEach (e :: rest) env)).any (·.1) = false := by rw [he]; show (false || (backTo pos (starEach rest env)).any (·.1)) = false; rw [hplain]; rfl
  refine wpAny_callWith (first := []) (args := backTo pos (starEach (e :: rest) env)) hf hp ?_
  have h' := h A E s ρ (fun vs' s₁ => (∀ b o, B.hb.get? b = some o → B.NP b → s₁.heap.get? b = some o) ∧ wpAny B.M A (PySem.call fv vs') QQ E s₁) pos hA S L fun vs vs' H1 ρ1 s1 q vv S1 st1 =>
    ⟨S1.keep, q A E s1 ρ1 vs' QQ hA S1 vv fun v v' H2 ρ2 s2 q2 vv2 S2 st2 => kk v v' H2 ρ2 s2 q2 vv2 S2 (st1.trans S1 st2)⟩
  rw [he] at h' ⊢
  exact evalArgs_plain h'

/-- the built-in type of a value -/
def TyOf (H : List O) (T : String) : V → Prop
  | .str _ => T = "str"
  | .ref k => ∃ o, H[k]? = some o ∧ match o with | .list _ => T = "list" | .dict _ => T = "dict" | .range _ _ => T = "range"
  | _ => False

theorem TyOf.is {ρ : List Addr} {s : Shared} {T : String} {v : V} {v' : Value} (S : SB B ρ H s) (h : TyOf H T v) (hv : VR ρ v v') : s.TypeIs v' T ∧ (∀ a, v' = .ref a → ∃ ob, s.heap.get? a = some ob ∧ ob.dict = none) := by
  cases v with
  | str x => obtain ⟨t, rfl⟩ := hv; obtain rfl := h; exact ⟨typeIs_str _ _ _, fun a e => by cases e⟩
  | ref k =>
    obtain ⟨o, e, h⟩ := h
    obtain ⟨a, e', rfl⟩ := hv
    have := S.objs k o a e e'
    cases o with
    | list vs =>
      obtain rfl := h
      obtain ⟨vs', n, g, _⟩ := this
      exact ⟨⟨_, g, rfl⟩, fun b e => by cases e; exact ⟨_, g, rfl⟩⟩
    | dict es =>
      obtain rfl := h
      obtain ⟨lo, kvs, hd, hf⟩ := this
      exact ⟨hd.typeIs, hd.mapOf.noDict⟩
    | range _ _ =>
      obtain rfl := h
      obtain ⟨t, u, v, g⟩ := this
      exact ⟨⟨_, g, rfl⟩, fun b e => by cases e; exact ⟨_, g, rfl⟩⟩
  | _ => exact h.elim

theorem EW.meth {o : Expr} {name : Str} {apos pos : Pos} {e : Expr} {rest : List Expr} {T id : String} (pa : PlainAttrs T) (slot : Slot T name id) (hty : typeOf (.builtin id) = pure (.type "method_descriptor"))
    (h : EW B n env loc o H fun ov H1 => TyOf H1 T ov ∧ EWs B n env loc (e :: rest) H1 fun vs H2 => CW B n (.builtin id) (ov :: vs) H2 Q)
    (hbase : attributeBase o name env (eval o env) = eval o env := by rfl)
    (hfew : ((backTo pos (starEach (e :: rest) env)).all (fun x => !x.1) && (backToKw pos (keywordEach [] env)).all (fun x => x.1.isSome)
      && decide ((e :: rest).length + ([] : List Keyword).length + (if ([] : List Keyword).isEmpty then 0 else 1) < 30)) = true := by rfl)
    (hline : (apos.endLine == pos.line) = true := by rfl)
    (he : starEach (e :: rest) env = (false, eval e env) :: starEach rest env := by rfl) (hplain : (backTo pos (starEach rest env)).any (·.1) = false := by rfl) :
    EW B n env loc (.Call (.Attribute o name apos) (e :: rest) [] pos) H Q := fun A E s ρ QQ hA S L kk => by
  refine wpAny_Call_method hbase hfew hline pa slot hty (h A E s ρ _ hA S L fun ov ov' H1 ρ1 s1 q vo S1 st1 => ?_)
  obtain ⟨h1, h2⟩ := q.1.is S1 vo
  refine ⟨h1, h2, ?_⟩
  have hp : (backTo pos (starEach (e :: rest) env)).any (·.1) = false := by rw [he]; show (false || (backTo pos (starEach rest env)).any (·.1)) = false; rw [hplain]; rfl
  refine callWith_builtin hp ?_
  have h' := q.2 A E s1 ρ1 (fun vs' s₁ => wpAny B.M A (PySem.call (.builtin id) ([ov'] ++ vs')) QQ E s₁) pos hA S1 (L.step st1) fun vs vs' H2 ρ2 s2 q2 vv S2 st2 =>
    q2 A E s2 ρ2 _ QQ hA S2 (.cons (st2.mono vo) vv) fun v v' H3 ρ3 s3 q3 vv3 S3 st3 => kk v v' H3 ρ3 s3 q3 vv3 S3 ((st1.trans S1 st2).trans S2 st3)
  rw [he] at h' ⊢
  exact evalArgs_plain h'

end
end Mine

end
section
open PySem PySem.W PySem.Calls PyProof.Rows
set_option maxRecDepth 100000
namespace Mine

def V.toInt : V → Option Int
  | .int i => some i
  | _ => Option.none

theorem VR.toInt {ρ : List Addr} {v : V} {v' : Value} {i : Int} (h : VR ρ v v') (e : v.toInt = some i) : ∃ t, v' = .int i t := by
  cases v with
  | int j => cases e; exact h
  | _ => cases e

section
variable {B : Wd} {n : Nat} {H : List O} {Q : V → List O → Prop} {x y : Int}

theorem SB.ltok {ρ H s} (S : SB B ρ H s) : B.t0 ≤ s.toks + 1 := by have := S.toks; omega
theorem SB.ltok2 {ρ H s} (S : SB B ρ H s) : B.t0 ≤ s.toks + 1 + 1 := by have := S.toks; omega

theorem PW2.add (q : Q (.int (x + y)) H) : PW2 B n (binaryOp .Add) (.int x) (.int y) H Q := fun A E s ρ a' b' QQ hA S va vb kk => by
  obtain ⟨t, rfl⟩ := va; obtain ⟨u, rfl⟩ := vb
  exact add_int (kk _ _ _ ρ _ q ⟨_, rfl⟩ (S.tok S.ltok) Step.tok)
theorem PW2.sub (q : Q (.int (x - y)) H) : PW2 B n (binaryOp .Sub) (.int x) (.int y) H Q := fun A E s ρ a' b' QQ hA S va vb kk => by
  obtain ⟨t, rfl⟩ := va; obtain ⟨u, rfl⟩ := vb
  exact sub_int' (kk _ _ _ ρ _ q ⟨_, rfl⟩ (S.tok S.ltok) Step.tok)
theorem PW2.mul (hm : IntMulOk x y) (q : Q (.int (x * y)) H) : PW2 B n (binaryOp .Mult) (.int x) (.int y) H Q := fun A E s ρ a' b' QQ hA S va vb kk => by
  obtain ⟨t, rfl⟩ := va; obtain ⟨u, rfl⟩ := vb
  exact mul_int (kk _ _ _ ρ _ q ⟨_, rfl⟩ (S.tok S.ltok) Step.tok) hm
theorem PW2.fdiv (h0 : y ≠ 0) (hs : y.natAbs < 1073741824) (q : Q (.int (x.fdiv y)) H) : PW2 B n (binaryOp .FloorDiv) (.int x) (.int y) H Q := fun A E s ρ a' b' QQ hA S va vb kk => by
  obtain ⟨t, rfl⟩ := va; obtain ⟨u, rfl⟩ := vb
  exact floordiv_int h0 (kk _ _ _ ρ _ q ⟨_, rfl⟩ (S.tok S.ltok) Step.tok) (.inl (PyProof.noPylong_small hs))
theorem PW2.fmod (h0 : y ≠ 0) (q : Q (.int (x.fmod y)) H) : PW2 B n (binaryOp .Mod) (.int x) (.int y) H Q := fun A E s ρ a' b' QQ hA S va vb kk => by
  obtain ⟨t, rfl⟩ := va; obtain ⟨u, rfl⟩ := vb
  exact mod_int' h0 (kk _ _ _ ρ _ q ⟨_, rfl⟩ (S.tok S.ltok) Step.tok)
theorem PW2.pow (h0 : 0 ≤ y) (hs : (Builtin.Int.intBits x : Int) * y ≤ 2 ^ 27) (q : Q (.int (x ^ y.toNat)) H) : PW2 B n (binaryOp .Pow) (.int x) (.int y) H Q := fun A E s ρ a' b' QQ hA S va vb kk => by
  obtain ⟨t, rfl⟩ := va; obtain ⟨u, rfl⟩ := vb
  exact pow_int h0 hs (kk _ _ _ ρ _ q ⟨_, rfl⟩ (S.tok S.ltok) Step.tok)
theorem PW2.band (q : Q (.int (Builtin.bitAnd x y)) H) : PW2 B n (binaryOp .BitAnd) (.int x) (.int y) H Q := fun A E s ρ a' b' QQ hA S va vb kk => by
  obtain ⟨t, rfl⟩ := va; obtain ⟨u, rfl⟩ := vb
  exact and_int (kk _ _ _ ρ _ q ⟨_, rfl⟩ (S.tok S.ltok) Step.tok)
theorem PW2.bxor (q : Q (.int (Builtin.bitXor x y)) H) : PW2 B n (binaryOp .BitXor) (.int x) (.int y) H Q := fun A E s ρ a' b' QQ hA S va vb kk => by
  obtain ⟨t, rfl⟩ := va; obtain ⟨u, rfl⟩ := vb
  exact xor_int (kk _ _ _ ρ _ q ⟨_, rfl⟩ (S.tok S.ltok) Step.tok)

theorem PW2.eqi (q : Q (.bool (x == y)) H) : PW2 B n (compareOp .Eq) (.int x) (.int y) H Q := fun A E s ρ a' b' QQ hA S va vb kk => by
  obtain ⟨t, rfl⟩ := va; obtain ⟨u, rfl⟩ := vb
  exact eq_int (kk _ _ _ ρ _ q rfl S Step.refl)
theorem PW2.nei (q : Q (.bool (x != y)) H) : PW2 B n (compareOp .NotEq) (.int x) (.int y) H Q := fun A E s ρ a' b' QQ hA S va vb kk => by
  obtain ⟨t, rfl⟩ := va; obtain ⟨u, rfl⟩ := vb
  exact ne_int (kk _ _ _ ρ _ q rfl S Step.refl)
theorem PW2.lti (q : Q (.bool (decide (x < y))) H) : PW2 B n (compareOp .Lt) (.int x) (.int y) H Q := fun A E s ρ a' b' QQ hA S va vb kk => by
  obtain ⟨t, rfl⟩ := va; obtain ⟨u, rfl⟩ := vb
  exact lt_int (kk _ _ _ ρ _ q rfl S Step.refl)
theorem PW2.gti (q : Q (.bool (decide (y < x))) H) : PW2 B n (compareOp .Gt) (.int x) (.int y) H Q := fun A E s ρ a' b' QQ hA S va vb kk => by
  obtain ⟨t, rfl⟩ := va; obtain ⟨u, rfl⟩ := vb
  exact gt_int (kk _ _ _ ρ _ q rfl S Step.refl)
theorem PW2.neb {p r : Bool} (q : Q (.bool (p != r)) H) : PW2 B n (compareOp .NotEq) (.bool p) (.bool r) H Q := fun A E s ρ a' b' QQ hA S va vb kk => by
  obtain rfl := va; obtain rfl := vb
  exact ne_bool (kk _ _ _ ρ _ q rfl S Step.refl)

theorem PW2.adds {p r : Str} (hsz : p.length + r.length ≤ sizeLine) (q : Q (.str (p ++ r)) H) : PW2 B n (binaryOp .Add) (.str p) (.str r) H Q := fun A E s ρ a' b' QQ hA S va vb kk => by
  obtain ⟨t, rfl⟩ := va; obtain ⟨u, rfl⟩ := vb
  exact wpAny_with_toks S.toks (add_str (fun t' tk ht => kk _ _ _ ρ _ q ⟨t', rfl⟩ (S.tok ht) Step.tok) hsz)
theorem PW2.eqs {p r : Str} (q : Q (.bool (p == r)) H) : PW2 B n (compareOp .Eq) (.str p) (.str r) H Q := fun A E s ρ a' b' QQ hA S va vb kk => by
  obtain ⟨t, rfl⟩ := va; obtain ⟨u, rfl⟩ := vb
  exact eq_str (kk _ _ _ ρ _ q rfl S Step.refl)
theorem PW2.nes {p r : Str} (q : Q (.bool (p != r)) H) : PW2 B n (compareOp .NotEq) (.str p) (.str r) H Q := fun A E s ρ a' b' QQ hA S va vb kk => by
  obtain ⟨t, rfl⟩ := va; obtain ⟨u, rfl⟩ := vb
  exact ne_str (kk _ _ _ ρ _ q rfl S Step.refl)
theorem PW2.lts {p r : Str} (q : Q (.bool (p.cps.toList < r.cps.toList)) H) : PW2 B n (compareOp .Lt) (.str p) (.str r) H Q := fun A E s ρ a' b' QQ hA S va vb kk => by
  obtain ⟨t, rfl⟩ := va; obtain ⟨u, rfl⟩ := vb
  exact lt_str (kk _ _ _ ρ _ q rfl S Step.refl)
theorem PW2.gts {p r : Str} (q : Q (.bool (r.cps.toList < p.cps.toList)) H) : PW2 B n (compareOp .Gt) (.str p) (.str r) H Q := fun A E s ρ a' b' QQ hA S va vb kk => by
  obtain ⟨t, rfl⟩ := va; obtain ⟨u, rfl⟩ := vb
  exact PySem.P.gt_str (kk _ _ _ ρ _ q rfl S Step.refl)
/-- is p a part of r -/
def strIn (p r : Str) : Bool := !(Builtin.Str.occurrences r p 0 r.length 1).isEmpty
theorem PW2.ins {p r : Str} (q : Q (.bool (strIn p r)) H) : PW2 B n (compareOp .In) (.str p) (.str r) H Q := fun A E s ρ a' b' QQ hA S va vb kk => by
  obtain ⟨t, rfl⟩ := va; obtain ⟨u, rfl⟩ := vb
  exact in_str (kk _ _ _ ρ _ q rfl S Step.refl)
theorem PW2.nins {p r : Str} (q : Q (.bool (!strIn p r)) H) : PW2 B n (compareOp .NotIn) (.str p) (.str r) H Q := fun A E s ρ a' b' QQ hA S va vb kk => by
  obtain ⟨t, rfl⟩ := va; obtain ⟨u, rfl⟩ := vb
  exact notIn_str (kk _ _ _ ρ _ q rfl S Step.refl)
theorem PW2.isNone (q : Q (.bool true) H) : PW2 B n (compareOp .Is) .none .none H Q := fun A E s ρ a' b' QQ hA S va vb kk => by
  obtain rfl := va; obtain rfl := vb
  exact is_none_none (kk _ _ _ ρ _ q rfl S Step.refl)
theorem PW2.isNoneExt {d : Addr} (q : Q (.bool false) H) : PW2 B n (compareOp .Is) (.ext d) .none H Q := fun A E s ρ a' b' QQ hA S va vb kk => by
  obtain rfl := va; obtain rfl := vb
  exact is_none_ne (by intro e; cases e) (kk _ _ _ ρ _ q rfl S Step.refl)

theorem TV.str {p : Str} {Q : Bool → List O → Prop} (hf : (p.length : Int) < 2 ^ 63) (q : Q ((p.length : Int) != 0) H) : TV B n (.str p) H Q := fun A E s ρ v' QQ hA S hv kk => by
  obtain ⟨t, rfl⟩ := hv
  exact PySem.P.truthy_str (by omega) (kk _ _ ρ _ q (S.tok S.ltok2) Step.tok)

/-! calls of built-in functions -/
theorem CW.lens {p : Str} (hf : (p.length : Int) < 2 ^ 63) (q : Q (.int p.length) H) : CW B n (.builtin "len") [.str p] H Q := fun A E s ρ vs' QQ hA S hv kk => by
  obtain _ | ⟨⟨t, rfl⟩, _ | _⟩ := hv
  exact len_str (by omega) (kk _ _ _ ρ _ q ⟨_, rfl⟩ (S.tok S.ltok2) Step.tok)
theorem CW.lenl {k : Nat} {vs : List V} (hk : H[k]? = some (.list vs)) (hf : (vs.length : Int) < 2 ^ 63) (q : Q (.int vs.length) H) : CW B n (.builtin "len") [.ref k] H Q := fun A E s ρ vs' QQ hA S hv kk => by
  obtain _ | ⟨⟨a, e, rfl⟩, _ | _⟩ := hv
  obtain ⟨vs', m, g, r⟩ := S.objs k _ a hk e
  have hl : s.heap.IsList a vs'.toArray := ⟨_, g, rfl, m, rfl⟩
  have hz : vs'.toArray.size = vs.length := by simp [r.length]
  refine len_list hl (by rw [hz]; exact hf) ?_
  rw [hz]
  exact kk _ _ _ ρ _ q ⟨_, rfl⟩ (S.tok S.ltok2) Step.tok
theorem CW.chr {i : Int} (h0 : 0 ≤ i) (h1 : i ≤ 1114111) (q : Q (.str ⟨#[i.toNat]⟩) H) : CW B n (.builtin "chr") [.int i] H Q := fun A E s ρ vs' QQ hA S hv kk => by
  obtain _ | ⟨⟨t, rfl⟩, _ | _⟩ := hv
  exact chr_of_range h0 h1 (kk _ _ _ ρ _ q ⟨_, rfl⟩ (S.tok S.ltok) Step.tok)
theorem CW.ord {p : Str} (h1 : p.length = 1) (q : Q (.int (p.cps.getD 0 0 : Nat)) H) : CW B n (.builtin "ord") [.str p] H Q := fun A E s ρ vs' QQ hA S hv kk => by
  obtain _ | ⟨⟨t, rfl⟩, _ | _⟩ := hv
  exact ord_of_one h1 (kk _ _ _ ρ _ q ⟨_, rfl⟩ (S.tok S.ltok) Step.tok)
theorem CW.max {x y : Int} (q : Q (.int (if y > x then y else x)) H) : CW B n (.builtin "max") [.int x, .int y] H Q := fun A E s ρ vs' QQ hA S hv kk => by
  obtain _ | ⟨⟨t, rfl⟩, _ | ⟨⟨u, rfl⟩, _ | _⟩⟩ := hv
  refine wpAny_with_toks S.toks (max_two_ints hA.h fun h' tk hk htk => ?_)
  by_cases hc : y > x
  · rw [if_pos hc] at q ⊢; exact kk _ _ _ ρ _ q ⟨u, rfl⟩ (S.keeps hk htk) (Step.keeps hk)
  · rw [if_neg hc] at q ⊢; exact kk _ _ _ ρ _ q ⟨t, rfl⟩ (S.keeps hk htk) (Step.keeps hk)
theorem CW.min {x y : Int} (q : Q (.int (if y < x then y else x)) H) : CW B n (.builtin "min") [.int x, .int y] H Q := fun A E s ρ vs' QQ hA S hv kk => by
  obtain _ | ⟨⟨t, rfl⟩, _ | ⟨⟨u, rfl⟩, _ | _⟩⟩ := hv
  refine wpAny_with_toks S.toks (min_two_ints hA.h fun h' tk hk htk => ?_)
  by_cases hc : y < x
  · rw [if_pos hc] at q ⊢; exact kk _ _ _ ρ _ q ⟨u, rfl⟩ (S.keeps hk htk) (Step.keeps hk)
  · rw [if_neg hc] at q ⊢; exact kk _ _ _ ρ _ q ⟨t, rfl⟩ (S.keeps hk htk) (Step.keeps hk)

/-- the intsOf of a list -/
def intsOf : List V → Option (List Int)
  | [] => some []
  | v :: r => match v.toInt, intsOf r with
    | some i, some l => some (i :: l)
    | _, _ => Option.none
theorem VRs.intsOf {ρ : List Addr} {vs vs'} (h : VRs ρ vs vs') : ∀ {is}, Mine.intsOf vs = some is → IntsAre vs' is := by
  induction h with
  | nil => intro is e; cases e; exact .nil
  | @cons v v' vs vs' h _ ih =>
    intro is e
    unfold Mine.intsOf at e
    split at e
    · rename_i i l e1 e2
      cases e
      obtain ⟨t, rfl⟩ := h.toInt e1
      exact .cons i t (ih e2)
    · cases e
theorem CW.sum {k : Nat} {vs : List V} {is : List Int} (hk : H[k]? = some (.list vs)) (hi : intsOf vs = some is) (q : Q (.int is.sum) H) : CW B n (.builtin "sum") [.ref k] H Q := fun A E s ρ vs' QQ hA S hv kk => by
  obtain _ | ⟨⟨a, e, rfl⟩, _ | _⟩ := hv
  obtain ⟨vs', m, g, r⟩ := S.objs k _ a hk e
  have hl : s.heap.IsList a vs'.toArray := ⟨_, g, rfl, m, rfl⟩
  have hI := r.intsOf hi
  obtain ⟨xs, hx⟩ := hI.allInts.items
  rw [hx] at hl
  refine wpAny_with_toks S.toks (sum_intListG hA.h hl fun h' tk t' hk' htk => ?_)
  have hs : preSum (numAt xs) xs.size = is.sum := by
    have h1 := hI.numsOf
    have h2 := nums_intItems xs
    rw [← hx, show vs'.toArray.toList = vs' from rfl, h1] at h2
    rw [preSum_eq, List.take_of_length_le (by simp), h2]
  rw [hs]
  exact kk _ _ _ ρ _ q ⟨t', rfl⟩ (S.keeps hk' htk) (Step.keeps hk')
theorem CW.find {p r : Str} (q : Q (.int (Txt.find p r)) H) : CW B n (.builtin "str.find") [.str p, .str r] H Q := fun A E s ρ vs' QQ hA S hv kk => by
  obtain _ | ⟨⟨t, rfl⟩, _ | ⟨⟨u, rfl⟩, _ | _⟩⟩ := hv
  exact SC.find (kk _ _ _ ρ _ q ⟨_, rfl⟩ (S.tok S.ltok) Step.tok)
end
end Mine

end
section
open PySem PySem.W PySem.Calls PyProof.Rows
set_option maxRecDepth 100000
namespace Mine
section
variable {B : Wd} {n : Nat} {env : Env} {loc : Loc} {H : List O} {Q : V → List O → Prop}

theorem SB.list {ρ H s} (S : SB B ρ H s) {k : Nat} {vs : List V} {a : Addr} (hk : H[k]? = some (.list vs)) (e : ρ[k]? = some a) : ∃ vs' m, s.heap.get? a = some (listOf vs'.toArray m) ∧ VRs ρ vs vs' ∧ s.heap.IsList a vs'.toArray := by
  obtain ⟨vs', m, g, r⟩ := S.objs k _ a hk e
  exact ⟨vs', m, g, r, ⟨_, g, rfl, m, rfl⟩⟩

/-! an item -/
theorem EW.item {value slice : Expr} {pos : Pos} (h : EW B n env loc value H fun o H1 => EW B n env loc slice H1 fun i H2 => PW2 B n (subscriptTail value slice) o i H2 Q) : EW B n env loc (.Subscript value slice pos) H Q :=
  fun A E s ρ QQ hA S L kk => Subscript_ (h A E s ρ _ hA S L fun a a' H1 ρ1 s1 q va S1 st1 => q A E s1 ρ1 _ hA S1 (L.step st1) fun b b' H2 ρ2 s2 q2 vb S2 st2 =>
    q2 A E s2 ρ2 a' b' _ hA S2 (st2.mono va) vb fun v v' H3 ρ3 s3 q3 vv S3 st3 => kk v v' H3 ρ3 s3 q3 vv S3 ((st1.trans S1 st2).trans S2 st3))

theorem PW2.item {value slice : Expr} {k : Nat} {vs : List V} {i : Int} {v : V} (hk : H[k]? = some (.list vs)) (h0 : 0 ≤ i) (hf : i < 2 ^ 63) (hv : vs[i.toNat]? = some v) (q : Q v H)
    (hs : ∀ l u, subscripted slice false (.ref l) (.int i u) = operate [.ref l, .int i u] (getItem (.ref l) (.int i u)) := by intro _ _; with_unfolding_all rfl) :
    PW2 B n (subscriptTail value slice) (.ref k) (.int i) H Q := fun A E s ρ a' b' QQ hA S va vb kk => by
  obtain ⟨a, e, rfl⟩ := va; obtain ⟨u, rfl⟩ := vb
  obtain ⟨vs', m, g, r, hl⟩ := S.list hk e
  obtain ⟨v', hx, vv⟩ := r.get hv
  exact item_listR hl h0 hf (by simpa using hx) (kk _ _ _ ρ _ q vv S Step.refl) (hs _ _)

theorem PW2.itemS {value slice : Expr} {x : Str} {i : Int} {c : Nat} (h0 : 0 ≤ i) (hf : i < 2 ^ 63) (hc : x.cps[i.toNat]? = some c) (q : Q (.str ⟨#[c]⟩) H)
    (hs : ∀ t u, subscripted slice false (.str x t) (.int i u) = operate [.str x t, .int i u] (getItem (.str x t) (.int i u)) := by intro _ _; with_unfolding_all rfl) :
    PW2 B n (subscriptTail value slice) (.str x) (.int i) H Q := fun A E s ρ a' b' QQ hA S va vb kk => by
  obtain ⟨t, rfl⟩ := va; obtain ⟨u, rfl⟩ := vb
  have hlt : i.toNat < x.length := (Array.getElem?_eq_some_iff.mp hc).1
  refine subscriptTail_builtin (typeIs_str _ _ _) PySem.F.slot_str_getitem.lookup (getItem_str (c := c) (by simp; omega) ?_ (kk _ _ _ ρ _ q ⟨_, rfl⟩ (S.tok S.ltok) Step.tok)) (hs _ _) (fun r => ?_)
  · have : seqIndex? i x.length = some i.toNat := by
      unfold seqIndex?
      have h1 : ¬ i < 0 := by omega
      have h2 : i < x.length := by omega
      simp [h1, h0, h2]
    rw [this]; exact hc
  · unfold letTemporaryGo; split <;> first | rfl | (rename_i h; cases h)

/-! slices -/
/-- an end of a slice -/
def EP (B : Wd) (n : Nat) (env : Env) (loc : Loc) (e : Option Expr) (H : List O) (Q : Option Int → List O → Prop) : Prop :=
  ∀ (A : Around) (E : Value → Shared → Prop) (s : Shared) (ρ : List Addr) (QQ : Value → Shared → Prop), AOk n A → SB B ρ H s → LocR B env loc ρ s.heap →
    (∀ v v' H' ρ' s', Q v H' → (∃ l : Option (Int × Tok), l.map (·.1) = v ∧ v' = partValue l) → SB B ρ' H' s' → Step B ρ ρ' s s' → QQ v' s') → wpAny B.M A (evalPart e env) QQ E s
theorem EP.none {Q : Option Int → List O → Prop} (q : Q Option.none H) : EP B n env loc Option.none H Q := fun A E s ρ QQ hA S L kk => wpAny_pure (kk _ _ _ ρ _ q ⟨Option.none, rfl, rfl⟩ S Step.refl)
theorem EP.some {e : Expr} {Q : Option Int → List O → Prop} (h : EW B n env loc e H fun v H1 => ∃ i, v = .int i ∧ Q (Option.some i) H1) : EP B n env loc (Option.some e) H Q := fun A E s ρ QQ hA S L kk =>
  h A E s ρ QQ hA S L fun v v' H1 ρ1 s1 q vv S1 st1 => by
    obtain ⟨i, rfl, q⟩ := q
    obtain ⟨t, rfl⟩ := vv
    exact kk _ _ _ _ _ q ⟨Option.some (i, t), rfl, rfl⟩ S1 st1

theorem slice_made {x : Str} {t : Tok} {l u : Option (Int × Tok)} : sliceMade x t l u Option.none = if ((1 : Int) == 1 && (Builtin.Str.strSliceIndices (l.map (·.1)) (u.map (·.1)) 1 x.length).length == x.length) = true then .val (.str x t)
  else .str ⟨((Builtin.Str.strSliceIndices (l.map (·.1)) (u.map (·.1)) 1 x.length).filterMap (x.cps[·]?)).toArray⟩ := rfl

theorem EW.sliceS {value : Expr} {lower upper : Option Expr} {p pos : Pos} {x : Str} {lo hi : Option Int}
    (h : EW B n env loc value H fun o H1 => EP B n env loc lower H1 fun l H2 => EP B n env loc upper H2 fun u H3 => ∃ x, o = .str x ∧ x.length ≤ sizeLine ∧ Q (.str (Txt.slice x l u)) H3)
    (ht : ∀ o r, letTemporaryGo value o r = pure () := by intro _ _; rfl) : EW B n env loc (.Subscript value (.Slice lower upper Option.none p) pos) H Q := fun A E s ρ QQ hA S L kk => by
  refine wpAny_with_toks S.toks (wpAny_Subscript_str_slice (h A _ s ρ _ hA S L fun o o' H1 ρ1 s1 q vo S1 st1 => q A _ s1 ρ1 _ hA S1 (L.step st1) fun l l' H2 ρ2 s2 q2 hl S2 st2 => q2 A _ s2 ρ2 _ hA S2 ((L.step st1).step st2) fun u u' H3 ρ3 s3 q3 hu S3 st3 => ?_) ht)
  obtain ⟨x, rfl, hsz, q⟩ := q3
  obtain ⟨l, rfl, rfl⟩ := hl
  obtain ⟨u, rfl, rfl⟩ := hu
  obtain ⟨t, rfl⟩ := vo
  refine ⟨x, t, l, u, rfl, rfl, rfl, ?_⟩
  rw [slice_made]
  have hk : ∀ b o, s3.heap.get? b = some o → (s3.heap.push { cls := .type "slice", data := .fields #[partValue l, partValue u, .none] }).get? b = some o := fun b o e => Heap.get?_push_of_some _ e
  refine post_val_or_str ⟨Nat.le_trans (Txt.slice_le x _ _) hsz, fun t' tk htk => ?_⟩
  exact kk _ _ _ ρ3 _ q ⟨t', rfl⟩ (S3.keeps hk htk) (((st1.trans S1 st2).trans S2 st3).trans S3 (Step.keeps hk))

/-- the items of a list from lo up to hi -/
theorem slicePick_to (items : Array Value) (b : Int) (h0 : 0 ≤ b) : slicePick items Option.none (Option.some b) Option.none = (items.toList.take b.toNat).toArray := by
  obtain ⟨j, rfl⟩ := Int.eq_ofNat_of_zero_le h0
  by_cases h : j ≤ items.size
  · exact slicePick_upto items j h
  · have e : sliceBounds Option.none (Option.some (j : Int)) Option.none items.size = (((0 : Nat) : Int), (items.size : Int), 1) := by
      simp only [sliceBounds, Option.getD_none]
      have h2 : ¬ ((j : Int) < 0) := by omega
      simp only [h2, if_false, show (1 : Int) > 0 by decide, if_true]
      congr 1
      congr 1; omega
    unfold slicePick
    rw [e]
    simp only [sliceRange_one, pick_run]
    simp
    omega

theorem EW.sliceL {value upper : Expr} {p pos : Pos} {k : Nat}
    (h : EW B n env loc value H fun o H1 => EW B n env loc upper H1 fun u H2 => ∃ k vs b, o = .ref k ∧ H2[k]? = some (.list vs) ∧ u = .int b ∧ 0 ≤ b ∧ vs.length ≤ sizeLine ∧ Q (.ref H2.length) (H2 ++ [.list (vs.take b.toNat)]))
    (ht : ∀ o r, letTemporaryGo value o r = pure () := by intro _ _; rfl) : EW B n env loc (.Subscript value (.Slice Option.none (Option.some upper) Option.none p) pos) H Q := fun A E s ρ QQ hA S L kk => by
  refine wpAny_with_toks S.toks (wpAny_Subscript_list_slice (h A _ s ρ _ hA S L fun o o' H1 ρ1 s1 q vo S1 st1 => wpAny_pure (q A _ s1 ρ1 _ hA S1 (L.step st1) fun u u' H2 ρ2 s2 q2 vu S2 st2 => ?_)) ht)
  obtain ⟨k, vs, b, rfl, hk, rfl, h0, hsz, q⟩ := q2
  obtain ⟨a, e, rfl⟩ := st2.mono vo
  obtain ⟨t, rfl⟩ := vu
  obtain ⟨vs', m, g, r, hl⟩ := S2.list hk e
  refine ⟨a, _, Option.none, Option.some b, rfl, hl, by rw [List.size_toArray, ← r.length]; exact hsz, .none, .int b t, ?_⟩
  rw [slicePick_to _ _ h0]
  have h1 : ∀ b' o, s2.heap.get? b' = some o → ((s2.heap.push { cls := .type "slice", data := .fields #[.none, .int b t, .none] }).push { cls := .type "list", data := .seq (vs'.toArray.toList.take b.toNat).toArray }).get? b' = some o := fun _ _ e => Heap.get?_push_of_some _ (Heap.get?_push_of_some _ e)
  have hn : s2.heap.get? (s2.heap.objs.size + 1) = Option.none := by
    cases q : s2.heap.get? (s2.heap.objs.size + 1) with
    | none => rfl
    | some o => exact absurd (Heap.lt_size q) (Nat.not_lt.mpr (Nat.le_succ _))
  intro htk
  refine kk _ _ _ (ρ2 ++ [s2.heap.objs.size + 1]) _ q ⟨_, by rw [← S2.len]; simp, rfl⟩ (S2.more h1 (by exact htk) hn ?_) ((st1.trans S1 st2).trans S2 (Step.more h1 hn))
  refine ⟨vs'.take b.toNat, 0, ?_, (r.take _).mono⟩
  have := Heap.get?_push_size (s2.heap.push { cls := .type "slice", data := .fields #[.none, .int b t, .none] }) (o := { cls := .type "list", data := .seq (vs'.toArray.toList.take b.toNat).toArray }) rfl
  simpa using this

/-! displays -/
theorem no_new {h : Heap} : h.get? h.objs.size = Option.none := by
  cases q : h.get? h.objs.size with
  | none => rfl
  | some o => exact absurd (Heap.lt_size q) (Nat.lt_irrefl _)

theorem EW.list {elts : List Expr} {pos : Pos} (h : EWs B n env loc elts H fun vs H1 => vs.length ≤ sizeLine ∧ Q (.ref H1.length) (H1 ++ [.list vs])) : EW B n env loc (.List elts pos) H Q := fun A E s ρ QQ hA S L kk => by
  refine List_ (h A E s ρ _ pos hA S L fun vs vs' H1 ρ1 s1 q vv S1 st1 => ?_)
  have hk : ∀ b o, s1.heap.get? b = some o → (s1.heap.push { cls := .type "list", data := .seq vs'.toArray }).get? b = some o := fun _ _ e => Heap.get?_push_of_some _ e
  refine wpAny_newObj_type (kk _ _ _ (ρ1 ++ [s1.heap.objs.size]) _ q.2 ⟨_, by rw [← S1.len]; simp, rfl⟩ (S1.more hk S1.toks no_new ⟨vs', 0, Heap.get?_push_size _ rfl, vv.mono⟩) (st1.trans S1 (Step.more hk no_new))) ?_
  show vs'.toArray.size ≤ sizeLine
  rw [List.size_toArray, ← vv.length]; exact q.1

/-! what changes a list of the ledger -/
theorem upd_keeps {h : Heap} {a : Addr} {f : Obj → Obj} : ∀ b o, b ≠ a → h.get? b = some o → (h.update a f).get? b = some o := fun b o hb e => (Heap.get?_update_other h f (Ne.symm hb)).trans e

structure Wd.There (B : Wd) : Prop where
  c : ∃ o, B.hb.get? B.c = some o
  P : ∃ o, B.hb.get? B.P = some o

theorem SB.upd {ρ H s} (S : SB B ρ H s) (T : B.There) {k : Nat} {a : Addr} {vs' : List Value} {m : Nat} {f : Array Value → Array Value} {ws : List V} {ws' : List Value} (e : ρ[k]? = some a)
    (g : s.heap.get? a = some (listOf vs'.toArray m)) (hf : f vs'.toArray = ws'.toArray) (hw : VRs ρ ws ws') : SB B ρ (H.set k (.list ws)) { s with heap := s.heap.update a (Obj.mapSeq f) } := by
  have hn : B.P ∉ ρ ∧ B.c ∉ ρ := ⟨S.notP T.P, fun h => by obtain ⟨o, e⟩ := T.c; rw [S.fresh _ h] at e; cases e⟩
  refine S.set hn.1 hn.2 e upd_keeps S.toks ?_
  have := Heap.get?_update_self (Obj.mapSeq f) g rfl
  refine ⟨ws', if ws'.toArray.size == vs'.toArray.size then m else m + 1, ?_, hw⟩
  show (s.heap.update a (Obj.mapSeq f)).get? a = _
  rw [this]
  simp only [Obj.mapSeq, hf]

theorem CW.append {k : Nat} {vs : List V} {v : V} (T : B.There) (hk : H[k]? = some (.list vs)) (hsz : vs.length ≤ sizeLine) (q : Q .none (H.set k (.list (vs ++ [v])))) : CW B n (.builtin "list.append") [.ref k, v] H Q := fun A E s ρ vs' QQ hA S hv kk => by
  obtain _ | ⟨⟨a, e, rfl⟩, _ | ⟨vv, _ | _⟩⟩ := hv
  rename_i v'
  obtain ⟨vs', m, g, r, hl⟩ := S.list hk e
  refine call_meets PySem.F.slot_list_append ⟨_, g, rfl⟩ PySem.F.entry_list_append (PySem.F.args_list_append_2 _ _) (PySem.list_append a vs'.toArray m v' (by rw [List.size_toArray, ← r.length]; exact hsz)) ⟨g, ?_⟩
  exact kk _ _ _ ρ _ q rfl (S.upd T e g (ws' := vs' ++ [v']) (by simp) (r.append (.one vv))) (Step.set (List.mem_of_getElem? e) upd_keeps)

theorem CW.extend {k j : Nat} {vs ws : List V} (T : B.There) (hk : H[k]? = some (.list vs)) (hj : H[j]? = some (.list ws)) (hsz : vs.length + ws.length ≤ sizeLine) (q : Q .none (H.set k (.list (vs ++ ws)))) : CW B n (.builtin "list.extend") [.ref k, .ref j] H Q := fun A E s ρ vs' QQ hA S hv kk => by
  obtain _ | ⟨⟨a, e, rfl⟩, _ | ⟨⟨b, e2, rfl⟩, _ | _⟩⟩ := hv
  obtain ⟨vs', m, g, r, hl⟩ := S.list hk e
  obtain ⟨ws', m2, g2, r2, hl2⟩ := S.list hj e2
  have hz : vs'.toArray.size + ws'.toArray.size ≤ sizeLine := by rw [List.size_toArray, List.size_toArray, ← r.length, ← r2.length]; exact hsz
  refine call_meets PySem.F.slot_list_extend ⟨_, g, rfl⟩ PySem.F.entry_list_extend (PySem.F.args_list_extend_2 _ _) (AutoSeq1.list_extend_list_list_0 a vs'.toArray m b ws'.toArray m2 (extend_door hz) (Nat.le_trans (Nat.le_add_right _ _) hz) (Nat.le_succ_of_le hz)) ⟨g, g2, ?_⟩
  exact kk _ _ _ ρ _ q rfl (S.upd T e g (ws' := vs' ++ ws') (by simp) (r.append r2)) (Step.set (List.mem_of_getElem? e) upd_keeps)

end
end Mine

end
section
open PySem PySem.W PySem.Calls PyProof.Rows
set_option maxRecDepth 100000
namespace Mine
section
variable {B : Wd} {n : Nat} {env : Env} {loc : Loc} {H : List O} {Q : V → List O → Prop}

theorem PW2.inl {i : Int} {k : Nat} {vs : List V} {is : List Int} (hk : H[k]? = some (.list vs)) (hi : intsOf vs = some is) (q : Q (.bool (is.any (· == i))) H) : PW2 B n (compareOp .In) (.int i) (.ref k) H Q := fun A E s ρ a' b' QQ hA S va vb kk => by
  obtain ⟨t, rfl⟩ := va; obtain ⟨a, e, rfl⟩ := vb
  obtain ⟨vs', m, g, r, hl⟩ := S.list hk e
  exact in_list_ints hl (r.intsOf hi) (kk _ _ _ ρ _ q rfl S Step.refl)

/-- a list against the empty one -/
theorem PW2.eqNil {j k : Nat} {vs : List V} (hj : H[j]? = some (.list vs)) (hk : H[k]? = some (.list [])) (q : Q (.bool vs.isEmpty) H) : PW2 B n (compareOp .Eq) (.ref j) (.ref k) H Q := fun A E s ρ a' b' QQ hA S va vb kk => by
  obtain ⟨a, e, rfl⟩ := va; obtain ⟨b, e2, rfl⟩ := vb
  obtain ⟨vs', m, g, r, hl⟩ := S.list hj e
  obtain ⟨ws', m2, g2, r2, hl2⟩ := S.list hk e2
  cases r2
  cases vs with
  | nil =>
    cases r
    exact SeqAt.eq_listAt (e := fun _ => true) hl hl2 rfl hA.units (fun j h1 h2 => absurd h1 (Nat.not_lt_zero _)) (kk _ _ _ ρ _ q rfl S Step.refl)
  | cons v vs =>
    cases r
    exact SeqAt.eq_list_lengthsAt hl hl2 (by simp) hA.units (kk _ _ _ ρ _ q rfl S Step.refl)

/-- a list of ints of the world that was -/
structure XL (B : Wd) (a : Addr) (is : List Int) : Prop where
  l : ∃ vs, B.hb.IsList a vs.toArray ∧ IntsAre vs is
  p : a ≠ B.P

theorem XL.at {a is ρ H s} (X : XL B a is) (S : SB B ρ H s) : ∃ vs, s.heap.IsList a vs.toArray ∧ IntsAre vs is := by
  obtain ⟨⟨vs, hl, hi⟩, hp⟩ := X
  exact ⟨vs, hl.at fun o e => S.keep a o e (np hp), hi⟩

theorem PW2.neNilX {a : Addr} {k : Nat} {is : List Int} (X : XL B a is) (hk : H[k]? = some (.list [])) (q : Q (.bool (!is.isEmpty)) H) : PW2 B n (compareOp .NotEq) (.ext a) (.ref k) H Q := fun A E s ρ a' b' QQ hA S va vb kk => by
  obtain rfl := va; obtain ⟨b, e2, rfl⟩ := vb
  obtain ⟨vs, hl, hi⟩ := X.at S
  obtain ⟨ws', m2, g2, r2, hl2⟩ := S.list hk e2
  cases r2
  refine ne_intsK hl hi hl2 .nil (by have := hA.u; rw [cLine_is]; omega) (kk (.bool (!decide (is = []))) _ H ρ _ ?_ rfl S Step.refl)
  cases is <;> simpa using q

/-- the first items of such a list, as a list of one's own -/
theorem EW.sliceX {value upper : Expr} {p pos : Pos}
    (h : EW B n env loc value H fun o H1 => EW B n env loc upper H1 fun u H2 => ∃ a is b, o = .ext a ∧ XL B a is ∧ u = .int b ∧ 0 ≤ b ∧ is.length ≤ sizeLine ∧ Q (.ref H2.length) (H2 ++ [.list ((is.take b.toNat).map V.int)]))
    (ht : ∀ o r, letTemporaryGo value o r = pure () := by intro _ _; rfl) : EW B n env loc (.Subscript value (.Slice Option.none (Option.some upper) Option.none p) pos) H Q := fun A E s ρ QQ hA S L kk => by
  refine wpAny_with_toks S.toks (wpAny_Subscript_list_slice (h A _ s ρ _ hA S L fun o o' H1 ρ1 s1 q vo S1 st1 => wpAny_pure (q A _ s1 ρ1 _ hA S1 (L.step st1) fun u u' H2 ρ2 s2 q2 vu S2 st2 => ?_)) ht)
  obtain ⟨a, is, b, rfl, X, rfl, h0, hsz, q⟩ := q2
  obtain rfl := vo
  obtain ⟨t, rfl⟩ := vu
  obtain ⟨vs', hl, hi⟩ := X.at S2
  refine ⟨a, _, Option.none, Option.some b, rfl, hl, by rw [List.size_toArray, hi.length]; exact hsz, .none, .int b t, ?_⟩
  rw [slicePick_to _ _ h0]
  have h1 : ∀ b' o, s2.heap.get? b' = some o → ((s2.heap.push { cls := .type "slice", data := .fields #[.none, .int b t, .none] }).push { cls := .type "list", data := .seq (vs'.toArray.toList.take b.toNat).toArray }).get? b' = some o := fun _ _ e => Heap.get?_push_of_some _ (Heap.get?_push_of_some _ e)
  have hn : s2.heap.get? (s2.heap.objs.size + 1) = Option.none := by
    cases q : s2.heap.get? (s2.heap.objs.size + 1) with
    | none => rfl
    | some o => exact absurd (Heap.lt_size q) (Nat.not_lt.mpr (Nat.le_succ _))
  intro htk
  refine kk _ _ _ (ρ2 ++ [s2.heap.objs.size + 1]) _ q ⟨_, by rw [← S2.len]; simp, rfl⟩ (S2.more h1 (by exact htk) hn ?_) ((st1.trans S1 st2).trans S2 (Step.more h1 hn))
  refine ⟨vs'.take b.toNat, 0, ?_, ?_⟩
  · have := Heap.get?_push_size (s2.heap.push { cls := .type "slice", data := .fields #[.none, .int b t, .none] }) (o := { cls := .type "list", data := .seq (vs'.toArray.toList.take b.toNat).toArray }) rfl
    simpa using this
  · have key : ∀ (ρ : List Addr) (vs : List Value) (is : List Int), IntsAre vs is → ∀ j, VRs ρ ((is.take j).map V.int) (vs.take j) := by
      intro ρ vs is h
      induction h with
      | nil => intro j; simp; exact .nil
      | cons i t _ ih =>
        intro j
        cases j with
        | zero => exact .nil
        | succ j => exact .cons ⟨t, rfl⟩ (ih j)
    exact key _ _ _ hi _

/-- the texts of a list -/
def strsOf : List V → Option (List Str)
  | [] => some []
  | .str x :: r => (strsOf r).map (x :: ·)
  | _ => Option.none
theorem VRs.strsOf {ρ : List Addr} {vs vs'} (h : VRs ρ vs vs') : ∀ {xs}, Mine.strsOf vs = some xs → ∃ l : List (Str × Tok), strValues l = vs' ∧ l.map (·.1) = xs := by
  induction h with
  | nil => intro xs e; cases e; exact ⟨[], rfl, rfl⟩
  | @cons v v' vs vs' h _ ih =>
    intro xs e
    cases v with
    | str x =>
      simp only [Mine.strsOf, Option.map_eq_some_iff] at e
      obtain ⟨ys, e, rfl⟩ := e
      obtain ⟨l, rfl, rfl⟩ := ih e
      obtain ⟨t, rfl⟩ := h
      exact ⟨(x, t) :: l, rfl, rfl⟩
    | _ => cases e
theorem CW.join {x : Str} {k : Nat} {vs : List V} {xs : List Str} (hk : H[k]? = some (.list vs)) (hx : strsOf vs = some xs) (hok : JoinOk x xs = true) (q : Q (.str (Txt.join x xs)) H) :
    CW B n (.builtin "str.join") [.str x, .ref k] H Q := fun A E s ρ vs' QQ hA S hv kk => by
  obtain _ | ⟨⟨t, rfl⟩, _ | ⟨⟨a, e, rfl⟩, _ | _⟩⟩ := hv
  obtain ⟨vs', m, g, r, hl⟩ := S.list hk e
  obtain ⟨l, rfl, hl2⟩ := r.strsOf hx
  exact wpAny_with_toks S.toks (SC.join hl hl2 hok fun t' tk ht => kk _ _ _ ρ _ q ⟨t', rfl⟩ (S.tok ht) Step.tok)

theorem PW2.addl {j k : Nat} {vs ws : List V} (hj : H[j]? = some (.list vs)) (hk : H[k]? = some (.list ws)) (hsz : vs.length + ws.length ≤ sizeLine) (q : Q (.ref H.length) (H ++ [.list (vs ++ ws)])) : PW2 B n (binaryOp .Add) (.ref j) (.ref k) H Q := fun A E s ρ a' b' QQ hA S va vb kk => by
  obtain ⟨a, e, rfl⟩ := va; obtain ⟨b, e2, rfl⟩ := vb
  obtain ⟨vs', m, g, r, hl⟩ := S.list hj e
  obtain ⟨ws', m2, g2, r2, hl2⟩ := S.list hk e2
  have hkp : ∀ b o, s.heap.get? b = some o → (s.heap.push { cls := .type "list", data := .seq (vs'.toArray ++ ws'.toArray) }).get? b = some o := fun _ _ e => Heap.get?_push_of_some _ e
  refine PySem.P.add_list g g2 (kk _ _ _ (ρ ++ [s.heap.objs.size]) _ q ⟨_, by rw [← S.len]; simp, rfl⟩ (S.more hkp S.toks no_new ⟨vs' ++ ws', 0, ?_, (r.append r2).mono⟩) (Step.more hkp no_new)) (by rw [List.size_toArray, List.size_toArray, ← r.length, ← r2.length]; exact hsz)
  rw [Heap.get?_push_size _ rfl]; simp

/-- x.replace(y, z) with written texts -/
theorem EW.replace {o : Expr} {y z : Str} {apos pos p1 p2 : Pos} {k1 k2 : Nat} (h1 : 1 ≤ B.t0)
    (h : EW B n env loc o H fun ov H1 => ∃ x, ov = .str x ∧ (y == z) = false ∧ x.length + (x.length + 1) * z.length ≤ 16777216 ∧ Q (.str (Txt.replace x y z)) H1)
    (hbase : attributeBase o (Str.ofString "replace") env (eval o env) = eval o env := by rfl)
    (hline : (apos.endLine == pos.line) = true := by rfl) :
    EW B n env loc (.Call (.Attribute o (Str.ofString "replace") apos) [.Constant (.str y) k1 p1, .Constant (.str z) k2 p2] [] pos) H Q := fun A E s ρ QQ hA S L kk => by
  refine wpAny_Call_method hbase rfl hline PySem.F.plainAttrs_str PySem.F.slot_str_replace PySem.F.type_str_replace (h A E s ρ _ hA S L fun ov ov' H1 ρ1 s1 q vo S1 st1 => ?_)
  obtain ⟨x, rfl, hyz, hsz, q⟩ := q
  obtain ⟨t, rfl⟩ := vo
  refine ⟨typeIs_str _ _ _, fun a e => (by cases e), ?_⟩
  refine callWith_builtin rfl ?_
  refine evalArgs_plain (x := eval (.Constant (.str y) k1 p1) env) (rest := [(false, eval (.Constant (.str z) k2 p2) env)]) (spliced_cons (Constant_str (spliced_cons (Constant_str (spliced_nil ?_)))))
  refine wpAny_with_toks (n := B.t0) (by show B.t0 ≤ s1.toks + 1 + 1; have := S1.toks; omega) (SC.replace (Nat.ne_of_gt (Nat.lt_of_lt_of_le h1 S1.toks)) (Nat.succ_ne_zero _) (Nat.ne_of_lt (Nat.lt_succ_self _)) hyz hsz fun t' tk ht => ?_)
  exact kk _ _ _ ρ1 _ q ⟨t', rfl⟩ (S1.tok ht) (st1.trans S1 Step.tok)

/-! the table -/
end
end Mine

end
section
open PySem PySem.W PySem.Calls PyProof.Rows
set_option maxRecDepth 100000
namespace Mine

def upd (loc : Loc) (x : Str) (v : V) : Loc := fun y => if y = x then some v else loc y

/-- how a statement ends -/
inductive Fl where
  | next | brk | cont
  | ret (v : V)

def FR (ρ : List Addr) : Fl → Flow → Prop
  | .next, f => f = .next
  | .brk, f => f = .brk
  | .cont, f => f = .cont
  | .ret v, f => ∃ v', f = .ret v' ∧ VR ρ v v'

def Own (env : Env) (a : Addr) : Prop := a = env.locals ∨ ∃ x, env.cells.lookup x = some a

/-- a step that may change the places X -/
structure StepX (B : Wd) (X : Addr → Prop) (ρ ρ' : List Addr) (s s' : Shared) : Prop where
  ext : ∃ more, ρ' = ρ ++ more ∧ ∀ a ∈ more, s.heap.get? a = Option.none
  keep : ∀ a o, s.heap.get? a = some o → a ∉ ρ → B.NP a → ¬ X a → s'.heap.get? a = some o

section
variable {B : Wd} {X : Addr → Prop}
theorem Step.toX {ρ ρ' : List Addr} {s s' : Shared} (x : Step B ρ ρ' s s') : StepX B X ρ ρ' s s' := ⟨x.ext, fun a o e n p _ => x.keep a o e n p⟩
theorem StepX.wide {Y : Addr → Prop} {ρ ρ' : List Addr} {s s' : Shared} (x : StepX B X ρ ρ' s s') (h : ∀ a, X a → Y a) : StepX B Y ρ ρ' s s' := ⟨x.ext, fun a o e n p q => x.keep a o e n p fun hx => q (h a hx)⟩

theorem StepX.trans {ρ ρ' ρ'' : List Addr} {H' : List O} {s s' s'' : Shared} (x : StepX B X ρ ρ' s s') (S : SB B ρ' H' s') (hX : ∀ a, X a → ∃ o, s'.heap.get? a = some o) (y : StepX B X ρ' ρ'' s' s'') : StepX B X ρ ρ'' s s'' := by
  obtain ⟨⟨m, rfl, hm⟩, k⟩ := x
  obtain ⟨⟨m', rfl, hm'⟩, k'⟩ := y
  refine ⟨⟨m ++ m', by simp, fun a ha => ?_⟩, fun a o e na nP nX => ?_⟩
  · rcases List.mem_append.mp ha with h | h
    · exact hm a h
    · cases q : s.heap.get? a with
      | none => rfl
      | some o =>
        exfalso
        have hn := hm' a h
        by_cases hr : a ∈ ρ
        · obtain ⟨ob, e⟩ := S.mem (List.mem_append_left _ hr); rw [hn] at e; cases e
        · by_cases hP : a = B.P
          · subst hP; obtain ⟨ob, e⟩ := S.tab.there; rw [hn] at e; cases e
          · by_cases hx : X a
            · obtain ⟨ob, e⟩ := hX a hx; rw [hn] at e; cases e
            · rw [k a o q hr (np hP) hx] at hn; cases hn
  · refine k' a o (k a o e na nP nX) (fun h => ?_) nP nX
    rcases List.mem_append.mp h with h | h
    · exact na h
    · rw [hm a h] at e; cases e

theorem StepX.drop {ρ ρ₁ more : List Addr} {s s' : Shared} (x : StepX B X ρ ((ρ ++ ρ₁) ++ more) s s') : StepX B X ρ (ρ ++ ρ₁) s s' := by
  obtain ⟨⟨m, e, hm⟩, k⟩ := x
  rw [List.append_assoc] at e
  have e := List.append_cancel_left e
  subst e
  exact ⟨⟨ρ₁, rfl, fun a ha => hm a (List.mem_append_left _ ha)⟩, k⟩

theorem LocR.owned {env loc ρ h} (L : LocR B env loc ρ h) : ∀ a, Own env a → ∃ o, h.get? a = some o := by
  rintro a (rfl | ⟨x, e⟩)
  · obtain ⟨m, ⟨o, _, _, e, _⟩, _⟩ := L.ns; exact ⟨o, e⟩
  · obtain ⟨_, _, _, _, v, o, e, _⟩ := L.cells x a e; exact ⟨o, e⟩
/-- the frame's own things stay -/
theorem LocR.at {env loc ρ} {h h' : Heap} (L : LocR B env loc ρ h) (hk : ∀ a o, Own env a → h.get? a = some o → h'.get? a = some o) : LocR B env loc ρ h' := by
  obtain ⟨m, hn, hv⟩ := L.ns
  have cell : ∀ x c v, env.cells.lookup x = some c → h.IsCell c v → h'.IsCell c v := fun x c v e ⟨o, ho, hd⟩ => ⟨o, hk c o (.inr ⟨x, e⟩) ho, hd⟩
  refine ⟨L.kind, L.glob, L.bu, L.nL, L.nP, L.nB, fun x c e => ?_, L.apart, m, hn.at' fun o e => hk _ o (.inl rfl) e, fun x v e => ?_⟩
  · obtain ⟨h1, h2, h3, h4, v, hc⟩ := L.cells x c e
    exact ⟨h1, h2, h3, h4, v, cell x c v e hc⟩
  · rcases hv x v e with ⟨a, v', b, c⟩ | ⟨a, cc, v', b, c, d⟩
    · exact .inl ⟨a, v', b, c⟩
    · exact .inr ⟨a, cc, v', b, cell _ _ _ b c, d⟩

/-- some names are forgotten -/
theorem LocR.less {env loc loc' ρ} {h : Heap} (L : LocR B env loc ρ h) (hl : ∀ x v, loc' x = some v → loc x = some v) : LocR B env loc' ρ h := by
  obtain ⟨m, hn, hv⟩ := L.ns
  exact ⟨L.kind, L.glob, L.bu, L.nL, L.nP, L.nB, L.cells, L.apart, m, hn, fun x v e => hv x v (hl x v e)⟩

def LocClosed (loc : Loc) (n : Nat) : Prop := ∀ x k, loc x = some (.ref k) → k < n

theorem LocR.drop {env loc ρ more} {h : Heap} (L : LocR B env loc (ρ ++ more) h) (hc : LocClosed loc ρ.length) : LocR B env loc ρ h := by
  obtain ⟨m, hn, hv⟩ := L.ns
  refine ⟨L.kind, L.glob, L.bu, fun h => L.nL (List.mem_append_left _ h), L.nP, L.nB, fun x c e => ?_, L.apart, m, hn, fun x v e => ?_⟩
  · obtain ⟨h1, h2⟩ := L.cells x c e
    exact ⟨fun h => h1 (List.mem_append_left _ h), h2⟩
  · have hb : ∀ v', VR (ρ ++ more) v v' → VR ρ v v' := fun v' r => r.back fun k ek => hc x k (ek ▸ e)
    rcases hv x v e with ⟨a, v', b, c⟩ | ⟨a, cc, v', b, c, d⟩
    · exact .inl ⟨a, v', b, hb _ c⟩
    · exact .inr ⟨a, cc, v', b, c, hb _ d⟩

theorem LocR.setL {env loc ρ} {h h' : Heap} {m} {x : Str} {v : V} {v' : Value} (L : LocR B env loc ρ h) (hm : h.Ns env.locals m) (hl : ∀ x v, loc x = some v →
    (env.kindOf x = some .local ∧ ∃ v', m x = some v' ∧ VR ρ v v') ∨
    ((env.kindOf x = some .cell ∨ env.kindOf x = some .free) ∧ ∃ c v', env.cells.lookup x = some c ∧ h.IsCell c (some v') ∧ VR ρ v v')) (hk : env.kindOf x = some .local)
    (hn : h'.Ns env.locals (fun y => if y = x then some v' else m y)) (hs : Heap.SameBut env.locals h h') (hv : VR ρ v v') : LocR B env (upd loc x v) ρ h' := by
  refine ⟨L.kind, L.glob, L.bu, L.nL, L.nP, L.nB, fun y c e => ?_, L.apart, _, hn, fun y u e => ?_⟩
  · obtain ⟨h1, h2, h3, h4, u, hc⟩ := L.cells y c e
    exact ⟨h1, h2, h3, h4, u, hc.sameBut hs h3⟩
  · unfold upd at e
    by_cases hy : y = x
    · subst hy
      rw [if_pos rfl] at e; cases e
      exact .inl ⟨hk, v', if_pos rfl, hv⟩
    · rw [if_neg hy] at e
      rcases hl y u e with ⟨a, u', b, c⟩ | ⟨a, cc, u', b, c, d⟩
      · exact .inl ⟨a, u', (if_neg hy).trans b, c⟩
      · exact .inr ⟨a, cc, u', b, c.sameBut hs (L.cells y cc b).2.2.1, d⟩

theorem LocR.setC {env loc ρ} {h h' : Heap} {x : Str} {c : Addr} {v : V} {v' : Value} (L : LocR B env loc ρ h) (hk : env.kindOf x = some .cell) (hc : env.cells.lookup x = some c)
    (hn : h'.IsCell c (some v')) (hs : Heap.SameBut c h h') (hv : VR ρ v v') : LocR B env (upd loc x v) ρ h' := by
  obtain ⟨m, hm, hl⟩ := L.ns
  have hcL := (L.cells x c hc).2.2.1
  refine ⟨L.kind, L.glob, L.bu, L.nL, L.nP, L.nB, fun y d e => ?_, L.apart, m, hm.sameBut hs (Ne.symm hcL), fun y u e => ?_⟩
  · obtain ⟨h1, h2, h3, h4, u, hd⟩ := L.cells y d e
    by_cases q : d = c
    · subst q; exact ⟨h1, h2, h3, h4, _, hn⟩
    · exact ⟨h1, h2, h3, h4, u, hd.sameBut hs q⟩
  · unfold upd at e
    by_cases hy : y = x
    · subst hy
      rw [if_pos rfl] at e; cases e
      exact .inr ⟨.inl hk, c, v', hc, hn, hv⟩
    · rw [if_neg hy] at e
      rcases hl y u e with ⟨a, u', b, d⟩ | ⟨a, cc, u', b, d, f⟩
      · exact .inl ⟨a, u', b, d⟩
      · exact .inr ⟨a, cc, u', b, d.sameBut hs (fun q => hy (L.apart y x c (q ▸ b) hc)), f⟩

/-- the heap is changed at a place of nobody's -/
theorem SB.other {ρ H s} (S : SB B ρ H s) (T : B.There) {h' : Heap} {tk : Nat} {X : Addr → Prop} (hx : ∀ a, X a → a ∉ ρ ∧ B.hb.get? a = none) (hk : ∀ b o, ¬ X b → s.heap.get? b = some o → h'.get? b = some o) (ht : B.t0 ≤ tk) :
    SB B ρ H { s with heap := h', toks := tk } := by
  have nB : ∀ a o, B.hb.get? a = some o → ¬ X a := fun a o e h => by rw [(hx a h).2] at e; cases e
  refine ⟨fun a o e n => hk _ _ (nB a o e) (S.keep a o e n), S.fresh, S.len, S.nodup, fun k o a e e' => ?_, ?_, S.gens, S.os, ht⟩
  · have := (S.objs k o a e e').at (more := []) (h' := h') fun ob e => hk _ _ (fun h => (hx a h).1 (List.mem_of_getElem? e')) e
    simpa using this
  · obtain ⟨oc, ec⟩ := T.c
    obtain ⟨oP, eP⟩ := T.P
    obtain ⟨ps, x, y⟩ := S.tab
    have n1 := nB _ _ ec
    have n2 := nB _ _ eP
    refine ⟨ps, ?_, ?_⟩
    · obtain ⟨o, vs, file, tf, flags, tg, inF, text, tt, op, a, r1, r2, r3, r4, r5, r6, b, r⟩ := x
      exact ⟨o, vs, file, tf, flags, tg, inF, text, tt, op, hk _ _ n1 a, r1, r2, r3, r4, r5, r6, hk _ _ n2 b, r⟩
    · obtain ⟨⟨o, vs, a, r⟩, t⟩ := y
      exact ⟨⟨o, vs, hk _ _ n1 a, r⟩, hk _ _ n2 t⟩
end

section
variable (B : Wd) (n : Nat) (env : Env)
/-- a statement's weakest precondition -/
def FW (t : Sem Flow) (loc : Loc) (H : List O) (Q : Fl → Loc → List O → Prop) : Prop :=
  ∀ (A : Around) (E : Value → Shared → Prop) (s : Shared) (ρ : List Addr) (QQ : Flow → Shared → Prop), AOk n A → SB B ρ H s → LocR B env loc ρ s.heap →
    (∀ fl fl' loc' H' ρ' s', Q fl loc' H' → FR ρ' fl fl' → SB B ρ' H' s' → LocR B env loc' ρ' s'.heap → StepX B (Own env) ρ ρ' s s' → QQ fl' s') → wpAny B.M A t QQ E s
/-- a store -/
def AW (tgt : Expr) (v : V) (loc : Loc) (H : List O) (Q : Loc → Prop) : Prop :=
  ∀ (A : Around) (E : Value → Shared → Prop) (s : Shared) (ρ : List Addr) (v' : Value) (QQ : Unit → Shared → Prop), AOk n A → SB B ρ H s → LocR B env loc ρ s.heap → VR ρ v v' →
    (∀ loc' s', Q loc' → SB B ρ H s' → LocR B env loc' ρ s'.heap → StepX B (· = env.locals) ρ ρ s s' → QQ () s') → wpAny B.M A (assign tgt env v') QQ E s
end

section
variable {B : Wd} {n : Nat} {env : Env} {loc : Loc} {H : List O} {Q : Fl → Loc → List O → Prop}

theorem FW.mono {t : Sem Flow} {Q' : Fl → Loc → List O → Prop} (h : FW B n env t loc H Q) (hq : ∀ f l H', Q f l H' → Q' f l H') : FW B n env t loc H Q' :=
  fun A E s ρ QQ hA S L k => h A E s ρ QQ hA S L fun f f' l H' ρ' s' q => k f f' l H' ρ' s' (hq _ _ _ q)

theorem SW.nil (q : Q .next loc H) : FW B n env (execs [] env) loc H Q := fun A E s ρ QQ hA S L kk => wpAny_execs_nil (kk .next .next _ _ ρ s q rfl S L Step.refl.toX)

theorem SW.cons {st : Stmt} {rest : List Stmt} (h : FW B n env (exec st env) loc H fun f loc' H' => match f with | .next => FW B n env (execs rest env) loc' H' Q | f => Q f loc' H') :
    FW B n env (execs (st :: rest) env) loc H Q := fun A E s ρ QQ hA S L kk => by
  refine wpAny_execs_cons (h A E s ρ _ hA S L fun f f' loc' H' ρ' s' q r S' L' st' => ?_)
  cases f with
  | next =>
    obtain rfl := r
    exact q A E s' ρ' QQ hA S' L' fun f2 f2' l2 H2 ρ2 s2 q2 r2 S2 L2 st2 => kk _ _ _ _ _ _ q2 r2 S2 L2 (st'.trans S' L'.owned st2)
  | brk => obtain rfl := r; exact kk _ _ _ _ _ _ q rfl S' L' st'
  | cont => obtain rfl := r; exact kk _ _ _ _ _ _ q rfl S' L' st'
  | ret v => obtain ⟨v', rfl, hv⟩ := r; exact kk _ _ _ _ _ _ q ⟨v', rfl, hv⟩ S' L' st'

theorem wpAny_storeL {A : Around} {E : Value → Shared → Prop} {s : Shared} {ρ : List Addr} {x : Str} {v : V} {v' : Value} {QQ : Unit → Shared → Prop} (T : B.There) (S : SB B ρ H s) (L : LocR B env loc ρ s.heap) (hv : VR ρ v v')
    (hk : env.kindOf x = some .local) (h : ∀ s', SB B ρ H s' → LocR B env (upd loc x v) ρ s'.heap → StepX B (· = env.locals) ρ ρ s s' → QQ () s') : wpAny B.M A (storeName env x v') QQ E s := by
  obtain ⟨m, hm, hl⟩ := L.ns
  refine wpAny_storeName_local hk hm (fun h' hn hs => h _ (S.other T (X := (· = env.locals)) (fun a e => e ▸ ⟨L.nL, L.nB⟩) (fun b o nb e => hs.extBut b o nb e) (by have := S.toks; omega)) (L.setL hm hl hk hn hs hv)
    ⟨⟨[], by simp, by simp⟩, fun a o e _ _ nx => hs.extBut a o nx e⟩) ?_
  rw [L.kind]; rfl
theorem wpAny_storeC {A : Around} {E : Value → Shared → Prop} {s : Shared} {ρ : List Addr} {x : Str} {c : Addr} {v : V} {v' : Value} {QQ : Unit → Shared → Prop} (T : B.There) (S : SB B ρ H s) (L : LocR B env loc ρ s.heap) (hv : VR ρ v v')
    (hk : env.kindOf x = some .cell) (hc : env.cells.lookup x = some c) (h : ∀ s', SB B ρ H s' → LocR B env (upd loc x v) ρ s'.heap → StepX B (Own env) ρ ρ s s' → QQ () s') : wpAny B.M A (storeName env x v') QQ E s := by
  obtain ⟨h1, h2, h3, h4, u, hcc⟩ := L.cells x c hc
  refine wpAny_storeName_cell L.kind hk hc hcc (fun h' hn hs => h _ (S.other T (X := (· = c)) (fun a e => e ▸ ⟨h1, h4⟩) (fun b o nb e => hs.extBut b o nb e) S.toks) (L.setC hk hc hn hs hv)
    ⟨⟨[], by simp, by simp⟩, fun a o e _ _ nx => hs.extBut a o (fun q => nx (.inr ⟨x, q ▸ hc⟩)) e⟩)

theorem ST.assign {x : Str} {p pos : Pos} {value : Expr} (T : B.There) (h : EW B n env loc value H fun v H1 => Q .next (upd loc x v) H1) (hk : env.kindOf x = some .local := by rfl)
    (hs : swapsWith value (some (.Name x p)) pos.line env = pure false := by rfl) : FW B n env (exec (.Assign [.Name x p] value pos) env) loc H Q := fun A E s ρ QQ hA S L kk =>
  wpAny_Assign_Name (h A E s ρ _ hA S L fun v v' H1 ρ1 s1 q vv S1 st1 => wpAny_storeL T S1 (L.step st1) vv hk fun s2 S2 L2 st2 => kk _ _ _ _ ρ1 s2 q rfl S2 L2 (st1.toX.trans S1 (L.step st1).owned (st2.wide fun a e => .inl e))) hs
theorem ST.assignC {x : Str} {p pos : Pos} {value : Expr} {c : Addr} (T : B.There) (h : EW B n env loc value H fun v H1 => Q .next (upd loc x v) H1) (hk : env.kindOf x = some .cell := by rfl)
    (hc : env.cells.lookup x = some c := by rfl)
    (hs : swapsWith value (some (.Name x p)) pos.line env = pure false := by rfl) : FW B n env (exec (.Assign [.Name x p] value pos) env) loc H Q := fun A E s ρ QQ hA S L kk =>
  wpAny_Assign_Name (h A E s ρ _ hA S L fun v v' H1 ρ1 s1 q vv S1 st1 => wpAny_storeC T S1 (L.step st1) vv hk hc fun s2 S2 L2 st2 => kk _ _ _ _ ρ1 s2 q rfl S2 L2 (st1.toX.trans S1 (L.step st1).owned st2)) hs

theorem ST.ret {e : Expr} {pos : Pos} (h : EW B n env loc e H fun v H1 => Q (.ret v) loc H1) : FW B n env (exec (.Return (some e) pos) env) loc H Q := fun A E s ρ QQ hA S L kk =>
  wpAny_Return_some (h A E s ρ _ hA S L fun v v' H1 ρ1 s1 q vv S1 st1 => kk (.ret v) _ loc H1 ρ1 s1 q ⟨v', rfl, vv⟩ S1 (L.step st1) st1.toX)

theorem ST.brk {pos : Pos} (q : Q .brk loc H) : FW B n env (exec (.Break pos) env) loc H Q := fun A E s ρ QQ hA S L kk => wpAny_Break (kk .brk _ _ _ ρ s q rfl S L Step.refl.toX)

theorem ST.ite {test : Expr} {body orelse : List Stmt} {pos : Pos} (h : TW B n env loc test H fun b H1 => cond b (FW B n env (execs body env) loc H1 Q) (FW B n env (execs orelse env) loc H1 Q)) :
    FW B n env (exec (.If test body orelse pos) env) loc H Q := fun A E s ρ QQ hA S L kk => by
  refine wpAny_If (h A E s ρ _ hA S L fun b H1 ρ1 s1 q S1 st1 => ?_)
  cases b with
  | true => exact q A E s1 ρ1 QQ hA S1 (L.step st1) fun f f' l H2 ρ2 s2 q2 r2 S2 L2 st2 => kk _ _ _ _ _ _ q2 r2 S2 L2 (st1.toX.trans S1 (L.step st1).owned st2)
  | false => exact q A E s1 ρ1 QQ hA S1 (L.step st1) fun f f' l H2 ρ2 s2 q2 r2 S2 L2 st2 => kk _ _ _ _ _ _ q2 r2 S2 L2 (st1.toX.trans S1 (L.step st1).owned st2)

theorem ST.expr {e : Expr} {pos : Pos} (h : EW B n env loc e H fun v H1 => Q .next loc H1) (hs : swapsWith e none pos.line env = pure false := by rfl) :
    FW B n env (exec (.Expr e pos) env) loc H Q := fun A E s ρ QQ hA S L kk =>
  wpAny_Expr_any (h A E s ρ _ hA S L fun v v' H1 ρ1 s1 q vv S1 st1 => kk .next _ loc H1 ρ1 s1 q rfl S1 (L.step st1) st1.toX) (by show (env.scope.kind == .module && _) = false; rw [L.kind]; rfl) hs

theorem ST.tryOk {body orelse : List Stmt} {h₀ : ExceptHandler} {hs : List ExceptHandler} {pos : Pos} (h : FW B n env (execs body env) loc H fun f loc' H' => match f with | .next => FW B n env (execs orelse env) loc' H' Q | f => Q f loc' H') :
    FW B n env (exec (.Try body (h₀ :: hs) orelse [] pos) env) loc H Q := fun A E s ρ QQ hA S L kk => by
  refine wpAny_Try_except (h A _ s ρ _ hA S L fun f f' loc' H' ρ' s' q r S' L' st' => ?_)
  cases f with
  | next =>
    obtain rfl := r
    exact q A E s' ρ' QQ hA S' L' fun f2 f2' l2 H2 ρ2 s2 q2 r2 S2 L2 st2 => kk _ _ _ _ _ _ q2 r2 S2 L2 (st'.trans S' L'.owned st2)
  | brk => obtain rfl := r; exact kk _ _ _ _ _ _ q rfl S' L' st'
  | cont => obtain rfl := r; exact kk _ _ _ _ _ _ q rfl S' L' st'
  | ret v => obtain ⟨v', rfl, hv⟩ := r; exact kk _ _ _ _ _ _ q ⟨v', rfl, hv⟩ S' L' st'

theorem ST.aug {x : Str} {p pos : Pos} {op : Operator} {value : Expr} {v : V} (T : B.There) (hv : loc x = some v) (h : EW B n env loc value H fun w H1 => PW2 B n (inplaceOp op) v w H1 fun r H2 => Q .next (upd loc x r) H2)
    (hk : env.kindOf x = some .local := by rfl) : FW B n env (exec (.AugAssign (.Name x p) op value pos) env) loc H Q := fun A E s ρ QQ hA S L kk => by
  obtain ⟨m, hn, hl⟩ := L.ns
  rcases hl x v hv with ⟨a, v', b, c⟩ | ⟨a, _⟩
  · refine wpAny_AugAssign_Name (wpAny_loadName_local L.kind a hn b (h A E s ρ _ hA S L fun w w' H1 ρ1 s1 q vw S1 st1 => q A E s1 ρ1 _ _ _ hA S1 (st1.mono c) vw fun r r' H2 ρ2 s2 q2 vr S2 st2 => ?_))
    have st := st1.trans S1 st2
    exact wpAny_storeL T S2 (L.step st) vr hk fun s3 S3 L3 st3 => kk _ _ _ _ ρ2 s3 q2 rfl S3 L3 (st.toX.trans S2 (L.step st).owned (st3.wide fun a e => .inl e))
  · rw [hk] at a; rcases a with a | a <;> cases a

/-! stores of a target -/
theorem AW.name {x : Str} {p : Pos} {v : V} {Q : Loc → Prop} (T : B.There) (q : Q (upd loc x v)) (hk : env.kindOf x = some .local := by rfl) : AW B n env (.Name x p) v loc H Q := fun A E s ρ v' QQ hA S L hv kk =>
  wpAny_assign_Name (wpAny_storeL T S L hv hk fun s2 S2 L2 st2 => kk _ s2 q S2 L2 st2)

/-- what is laid beside, and lies in no ledger -/
theorem SB.beside {ρ H s} (S : SB B ρ H s) {h' : Heap} (he : Heap.ExtBut s.heap.objs.size s.heap h') : SB B ρ H { s with heap := h' } := S.keeps (tk := s.toks) (fun b o e => he b o (Nat.ne_of_lt (Heap.lt_size e)) e) S.toks
theorem Step.beside {ρ : List Addr} {s : Shared} {h' : Heap} (he : Heap.ExtBut s.heap.objs.size s.heap h') : Step B ρ ρ s { s with heap := h' } := Step.keeps (tk := s.toks) fun b o e => he b o (Nat.ne_of_lt (Heap.lt_size e)) e

theorem wpAny_two {A : Around} {E : Value → Shared → Prop} {s : Shared} {ρ : List Addr} {x y : Str} {px py : Pos} {v w : V} {v' w' : Value} {QQ : Unit → Shared → Prop} (T : B.There) (S : SB B ρ H s) (L : LocR B env loc ρ s.heap) (hv : VR ρ v v') (hw : VR ρ w w')
    (hx : env.kindOf x = some .local) (hy : env.kindOf y = some .local) (h : ∀ s', SB B ρ H s' → LocR B env (upd (upd loc x v) y w) ρ s'.heap → StepX B (· = env.locals) ρ ρ s s' → QQ () s') :
    wpAny B.M A (assignInOrder ((assignEach [.Name x px, .Name y py] env).map (·.2)) [v', w']) QQ E s := by
  have e : assignInOrder ((assignEach [.Name x px, .Name y py] env).map (·.2)) [v', w'] = (do holding [w'] (assign (.Name x px) env v'); (do holding [] (assign (.Name y py) env w'); pure ())) := rfl
  rw [e]
  refine wpAny_bind (wpAny_holding (wpAny_assign_Name (wpAny_storeL T S L hv hx fun s2 S2 L2 st2 => wpAny_bind (wpAny_holding (wpAny_assign_Name (wpAny_storeL T S2 L2 hw hy fun s3 S3 L3 st3 => wpAny_pure ?_))))))
  exact h s3 S3 L3 (st2.trans S2 (fun a e => L2.owned a (.inl e)) st3)

theorem AW.pair {x y : Str} {px py p : Pos} {c : Nat} {k : Nat} {v w : V} {Q : Loc → Prop} (T : B.There) (hk : H[k]? = some (.list [v, w])) (q : Q (upd (upd loc x v) y w)) (hx : env.kindOf x = some .local := by rfl) (hy : env.kindOf y = some .local := by rfl) :
    AW B n env (.Tuple [.Name x px, .Name y py] c p) (.ref k) loc H Q := fun A E s ρ v' QQ hA S L hv kk => by
  obtain ⟨a, e, rfl⟩ := hv
  obtain ⟨vs', m, g, r, hl⟩ := S.list hk e
  obtain _ | ⟨hv, _ | ⟨hw, _ | _⟩⟩ := r
  rename_i v' w'
  rw [PyProof.Rows.assign_Tuple]
  refine wpAny_bind (wpAny_standAt ?_)
  unfold unpack
  refine wpAny_bind (wpAny_holding (kun_itemsOf (items := #[v', w']) hA.h hl fun h' he => ?_))
  exact wpAny_two T (S.beside he) (L.step (Step.beside (B := B) (ρ := ρ) he)) hv hw hx hy fun s' S' L' st' => kk _ s' q S' L'
    ((Step.beside (B := B) (ρ := ρ) he).toX.trans (S.beside he) (fun a e => (L.step (Step.beside (B := B) (ρ := ρ) he)).owned a (.inl e)) st')

/-- a pair of the world that was -/
theorem AW.xpair {x y : Str} {px py p : Pos} {c : Nat} {t : Addr} {v w : V} {v' w' : Value} {Q : Loc → Prop} (T : B.There) (ht : B.hb.IsTuple t #[v', w']) (hP : t ≠ B.P) (hv : VR [] v v') (hw : VR [] w w') (q : Q (upd (upd loc x v) y w)) (hx : env.kindOf x = some .local := by rfl) (hy : env.kindOf y = some .local := by rfl) :
    AW B n env (.Tuple [.Name x px, .Name y py] c p) (.ext t) loc H Q := fun A E s ρ v'' QQ hA S L hvv kk => by
  obtain rfl := hvv
  have ht' : s.heap.IsTuple t #[v', w'] := ht.at fun o e => S.keep t o e (np hP)
  refine wpAny_assign_Tuple hA.h ht' rfl rfl fun h' he => ?_
  exact wpAny_two T (S.beside he) (L.step (Step.beside (B := B) (ρ := ρ) he)) (by simpa using hv.mono (more := ρ)) (by simpa using hw.mono (more := ρ)) hx hy fun s' S' L' st' => kk _ s' q S' L'
    ((Step.beside (B := B) (ρ := ρ) he).toX.trans (S.beside he) (fun a e => (L.step (Step.beside (B := B) (ρ := ρ) he)).owned a (.inl e)) st')

/-! what is no longer needed -/
def V.Closed (n : Nat) (v : V) : Prop := ∀ k, v = .ref k → k < n
def Fl.Closed (n : Nat) : Fl → Prop
  | .ret v => v.Closed n
  | _ => True

theorem FR.back {ρ more : List Addr} {f f'} (h : FR (ρ ++ more) f f') (hc : f.Closed ρ.length) : FR ρ f f' := by
  cases f with
  | ret v => obtain ⟨v', rfl, r⟩ := h; exact ⟨v', rfl, r.back hc⟩
  | _ => exact h

theorem split_len {ρ : List Addr} {H G : List O} (h : ρ.length = (H ++ G).length) : ∃ ρ₁ ρ₂, ρ = ρ₁ ++ ρ₂ ∧ ρ₁.length = H.length :=
  ⟨ρ.take H.length, ρ.drop H.length, (List.take_append_drop _ _).symm, by rw [List.length_take, h, List.length_append]; omega⟩

/-- the last objects of the ledger, and some names, are forgotten -/
theorem FW.gc {t : Sem Flow} (h : FW B n env t loc H fun f loc' H' => ∃ loc2 H2 G, H' = H2 ++ G ∧ H.length ≤ H2.length ∧ (∀ o ∈ H2, o.Closed H2.length) ∧ (∀ x v, loc2 x = some v → loc' x = some v) ∧ LocClosed loc2 H2.length ∧ f.Closed H2.length ∧ Q f loc2 H2) :
    FW B n env t loc H Q := fun A E s ρ QQ hA S L kk => h A E s ρ QQ hA S L fun f f' loc' H' ρ' s' q r S' L' st' => by
  obtain ⟨loc2, H2, G, rfl, hlen, hc, hl, hlc, hf, q⟩ := q
  obtain ⟨ρ₁, ρ₂, rfl, e1⟩ := split_len S'.len
  obtain ⟨⟨m, e, hm⟩, k⟩ := id st'
  have hle : ρ.length ≤ ρ₁.length := by rw [e1, S.len]; exact hlen
  obtain ⟨m1, rfl⟩ : ∃ m1, ρ₁ = ρ ++ m1 := by
    have h1 : ρ <+: ρ₁ ++ ρ₂ := ⟨m, e.symm⟩
    have h2 : ρ₁ <+: ρ₁ ++ ρ₂ := List.prefix_append ..
    obtain ⟨t, e⟩ := List.prefix_of_prefix_length_le h1 h2 hle
    exact ⟨t, e.symm⟩
  exact kk f f' loc2 H2 _ s' q (r.back (by rw [e1]; exact hf)) (S'.drop e1 hc) ((L'.less hl).drop (by rw [e1]; exact hlc)) st'.drop

theorem EW.gc {e : Expr} {Q : V → List O → Prop} (h : EW B n env loc e H fun v H' => ∃ H2 G, H' = H2 ++ G ∧ H.length ≤ H2.length ∧ ((∀ o ∈ H, o.Closed H.length) → ∀ o ∈ H2, o.Closed H2.length) ∧ v.Closed H2.length ∧ Q v H2) :
    EW B n env loc e H Q := fun A E s ρ QQ hA S L kk => h A E s ρ QQ hA S L fun v v' H' ρ' s' q r S' st' => by
  obtain ⟨H2, G, rfl, hlen, hc, hf, q⟩ := q
  obtain ⟨ρ₁, ρ₂, rfl, e1⟩ := split_len S'.len
  obtain ⟨⟨m, e, hm⟩, k⟩ := id st'
  have hle : ρ.length ≤ ρ₁.length := by rw [e1, S.len]; exact hlen
  obtain ⟨m1, rfl⟩ : ∃ m1, ρ₁ = ρ ++ m1 := by
    have h1 : ρ <+: ρ₁ ++ ρ₂ := ⟨m, e.symm⟩
    have h2 : ρ₁ <+: ρ₁ ++ ρ₂ := List.prefix_append ..
    obtain ⟨t, e⟩ := List.prefix_of_prefix_length_le h1 h2 hle
    exact ⟨t, e.symm⟩
  exact kk v v' H2 _ s' q (r.back (by rw [e1]; exact hf)) (S'.drop e1 (hc S.closed)) st'.drop

end
end Mine

end
section
open PySem PySem.W PySem.Calls PyProof.Rows
set_option maxRecDepth 100000
namespace Mine

/-- a frame -/
def fenv (S : Scope) (q : Str) (f : Addr) (cd : Value) (L : Addr) : Env :=
  { scope := S, locals := L, globals := mainGlobals, cells := cellsFrom (L + 1) S.names [], qual := q, func := some f, code := cd, frame := some L, builtins := builtinsNs }

def locOf (names : List Str) (vs : List V) : Loc := fun x => (names.zip vs).lookup x

/-- a def of the top -/
structure Fn (B : Wd) (f : Addr) (names : List Str) (body : List Stmt) (S : Scope) : Prop where
  ex : ∃ o fd, B.hb.get? f = some o ∧ o.data = .func fd ∧ fd.scope = S ∧ fd.body = .stmts body ∧ fd.closure = [] ∧ fd.globals = mainGlobals ∧ fd.builtins = builtinsNs ∧
    (∃ c oc vs t, fd.code = .ref c ∧ c ≠ B.P ∧ B.hb.get? c = some oc ∧ oc.data = .fields vs ∧ vs[1]? = some (.str fd.qualname t)) ∧ ∀ vals, vals.length = names.length → bindArgs fd ⟨vals, []⟩ = pure (names.zip vals)
  p : f ≠ B.P

theorem Fn.callee {B : Wd} {f names body S} (F : Fn B f names body S) : Callee B (.ref f) := by
  obtain ⟨⟨o, fd, h1, h2, _⟩, p⟩ := F
  exact .fn h1 h2 p

section
variable {B : Wd} {n : Nat} {H : List O} {Q : V → List O → Prop}

theorem zip_lookup {ρ : List Addr} : ∀ {names : List Str} {vs : List V} {vs' : List Value} (h : VRs ρ vs vs') {x : Str} {v : V}, (names.zip vs).lookup x = some v → ∃ v', (x, v') ∈ names.zip vs' ∧ VR ρ v v'
  | [], _, _, _, _, _, e => by simp at e
  | _ :: _, _, _, .nil, _, _, e => by simp at e
  | k :: names, _, _, .cons (v := u) (v' := u') (vs := vs) (vs' := vs') hu h, x, v, e => by
    simp only [List.zip_cons_cons, List.lookup_cons] at e
    cases hx : x == k with
    | true => rw [hx] at e; cases e; rw [beq_iff_eq.mp hx]; exact ⟨u', by simp, hu⟩
    | false => rw [hx] at e; obtain ⟨v', m, r⟩ := zip_lookup (names := names) h e; exact ⟨v', by simp [m], r⟩

theorem bindL_skip {kindOf : Str → Option NameKind} : ∀ {binds : List (Str × Value)} {m : Str → Option Value} {x : Str}, (∀ b ∈ binds, b.1 ≠ x) → bindL kindOf binds m x = m x
  | [], _, _, _ => rfl
  | (k, v) :: r, m, x, h => by
    unfold bindL
    rw [bindL_skip fun b hb => h b (.tail _ hb)]
    split
    · exact if_neg (Ne.symm (h _ (.head _)))
    · rfl
theorem bindC_skip {kindOf : Str → Option NameKind} : ∀ {binds : List (Str × Value)} {m : Str → Option Value} {x : Str}, (∀ b ∈ binds, b.1 ≠ x) → bindC kindOf binds m x = m x
  | [], _, _, _ => rfl
  | (k, v) :: r, m, x, h => by
    unfold bindC
    rw [bindC_skip fun b hb => h b (.tail _ hb)]
    split
    · rfl
    · exact if_neg (Ne.symm (h _ (.head _)))
theorem bindL_at {kindOf : Str → Option NameKind} {x : Str} {v : Value} (hk : kindOf x = some .local) : ∀ {binds : List (Str × Value)} {m : Str → Option Value}, (binds.map (·.1)).Nodup → (x, v) ∈ binds → bindL kindOf binds m x = some v
  | (k, u) :: r, m, hn, hm => by
    simp only [List.map_cons, List.nodup_cons] at hn
    unfold bindL
    rcases List.mem_cons.mp hm with e | hm
    · cases e
      rw [bindL_skip fun b hb e => hn.1 (List.mem_map.mpr ⟨b, hb, e⟩), if_pos hk]; exact if_pos rfl
    · exact bindL_at hk hn.2 hm
theorem bindC_at {kindOf : Str → Option NameKind} {x : Str} {v : Value} (hk : kindOf x ≠ some .local) : ∀ {binds : List (Str × Value)} {m : Str → Option Value}, (binds.map (·.1)).Nodup → (x, v) ∈ binds → bindC kindOf binds m x = some v
  | (k, u) :: r, m, hn, hm => by
    simp only [List.map_cons, List.nodup_cons] at hn
    unfold bindC
    rcases List.mem_cons.mp hm with e | hm
    · cases e
      rw [bindC_skip fun b hb e => hn.1 (List.mem_map.mpr ⟨b, hb, e⟩), if_neg hk]; exact if_pos rfl
    · exact bindC_at hk hn.2 hm

/-- the kinds of a def's parameters -/
def kindsOk (names : List Str) (S : Scope) : Bool := names.all fun x => S.names.lookup x == some .local || (S.names.lookup x == some .cell && ((cellsFrom 0 S.names []).lookup x).isSome)

theorem cells_some : ∀ (names : List (Str × NameKind)) (a b : Nat) (acc acc' : List (Str × Addr)) (x : Str), ((acc.lookup x).isSome = (acc'.lookup x).isSome) → ((cellsFrom a names acc).lookup x).isSome = ((cellsFrom b names acc').lookup x).isSome
  | [], _, _, _, _, _, h => h
  | (k, kind) :: r, a, b, acc, acc', x, h => by
    unfold cellsFrom
    split
    · refine cells_some r _ _ _ _ x ?_
      simp only [List.lookup_cons]
      cases x == k <;> simp [h]
    · exact cells_some r _ _ _ _ x h

theorem CW.def {f : Addr} {names : List Str} {body : List Stmt} {S : Scope} {vs : List V} (W : B.Ok) (T : B.There) (F : Fn B f names body S) (hlen : vs.length = names.length)
    (h : ∀ q cd L, (∃ o fd, B.hb.get? f = some o ∧ o.data = .func fd ∧ fd.code = cd) → FW B n (fenv S q f cd L) (execs body (fenv S q f cd L)) (locOf names vs) H fun fl _ H' => ∃ v H2 G, (match fl with | .ret u => u | _ => .none) = v ∧ H' = H2 ++ G ∧ H.length ≤ H2.length ∧ ((∀ o ∈ H, o.Closed H.length) → ∀ o ∈ H2, o.Closed H2.length) ∧ v.Closed H2.length ∧ Q v H2)
    (hk : kindsOk names S = true := by decide) (hn : names.Nodup := by decide) (hkind : S.kind = .function := by rfl) (hco : S.isCoroutine = false := by rfl) (hgen : S.isGenerator = false := by rfl) :
    CW B (n + 1) (.ref f) vs H Q := fun A E s ρ vs' QQ hA SS hv kk => by
  obtain ⟨⟨o, fd, ho, hd, hS, hbody, hclo, hglob, hbu, ⟨c, oc, cvs, t, hc1, hc2, hc3, hc4, hc5⟩, hbind⟩, hfP⟩ := F
  subst hS
  refine wpAny_call ?_
  refine codeAny_call_function hA.room (SS.keep _ _ ho (np hfP)) hd hco hgen hbody ⟨c, oc, cvs, t, hc1, SS.keep _ _ hc3 (np hc2), hc4, hc5⟩ ?_
  rw [hbind vs' (by rw [← hv.length]; exact hlen), hclo]
  refine wpAny_pure (wpAny_with_toks SS.toks (wpAny_newFunctionEnv_cells hkind (fun x hx => ?_) fun env he s' x htk => ?_))
  · have hx1 : x.1 ∈ names := (List.of_mem_zip hx).1
    have := List.all_eq_true.mp hk x.1 hx1
    simp only [Bool.or_eq_true, Bool.and_eq_true, beq_iff_eq] at this
    rcases this with h | ⟨h, h'⟩
    · exact .inl h
    · exact .inr ⟨h, by rw [← h']; exact cells_some _ _ _ _ _ _ rfl⟩
  have he' : env = fenv fd.scope (fd.qualname ++ ".<locals>.") f fd.code s.heap.objs.size := by
    rw [he, hglob, hbu]; rfl
  clear he
  subst he'
  refine ⟨W.nolimit.at fun o e => x.toInCall.keep _ _ (SS.keep _ _ e (np W.ps)), codeAny_func ?_⟩
  have fresh : ∀ a, s.heap.objs.size ≤ a → s.heap.get? a = none := fun a ha => Heap.get?_none_of_le ha
  have notin : ∀ a, s.heap.get? a = none → a ∉ ρ ∧ a ≠ B.P ∧ B.hb.get? a = none := fun a ha => by
    have hP : a ≠ B.P := fun e => by obtain ⟨ob, e'⟩ := SS.tab.there; rw [← e, ha] at e'; cases e'
    refine ⟨fun h => (by obtain ⟨ob, e⟩ := SS.mem h; rw [ha] at e; cases e), hP, ?_⟩
    cases q : B.hb.get? a with
    | none => rfl
    | some o => rw [SS.keep a o q (np hP)] at ha; cases ha
  obtain ⟨h1, tk1, hs'⟩ := x.toInCall.same
  have S' : SB B ρ H s' := by
    have hk' := x.toInCall.keep
    subst hs'
    exact SS.keeps hk' htk
  have L' : LocR B (fenv fd.scope (fd.qualname ++ ".<locals>.") f fd.code s.heap.objs.size) (locOf names vs) ρ s'.heap := by
    obtain ⟨n1, n2, n3⟩ := notin _ (fresh _ (Nat.le_refl _))
    refine ⟨hkind, rfl, rfl, n1, n2, n3, fun y c e => ?_, fun y z c e e' => name_of_addr x.apart (mem_of_lookup e) (mem_of_lookup e'), _, x.toInCall.ns, fun y v e => ?_⟩
    · have hab := x.above y c (mem_of_lookup e)
      obtain ⟨m1, m2, m3⟩ := notin c (fresh _ (Nat.le_of_lt hab))
      exact ⟨m1, m2, Nat.ne_of_gt hab, m3, _, x.cell y c e⟩
    · obtain ⟨v', hm, r⟩ := zip_lookup hv e
      have hnd : ((names.zip vs').map (·.1)).Nodup := by
        have : (names.zip vs').map (·.1) = names := by
          rw [List.map_fst_zip]; rw [← hv.length, hlen]; exact Nat.le_refl _
        rw [this]; exact hn
      have hy : y ∈ names := (List.of_mem_zip hm).1
      have := List.all_eq_true.mp hk y hy
      simp only [Bool.or_eq_true, Bool.and_eq_true, beq_iff_eq] at this
      rcases this with h | ⟨h, h'⟩
      · exact .inl ⟨h, v', bindL_at h hnd hm, r⟩
      · have h2 : ((cellsFrom (s.heap.objs.size + 1) fd.scope.names []).lookup y).isSome = true := by rw [← h']; exact cells_some _ _ _ _ _ _ rfl
        obtain ⟨c, hc⟩ := Option.isSome_iff_exists.mp h2
        refine .inr ⟨.inl h, c, v', hc, ?_, r⟩
        have := x.cell y c hc
        rwa [bindC_at (show (fenv fd.scope (fd.qualname ++ ".<locals>.") f fd.code s.heap.objs.size).kindOf y ≠ some .local by show fd.scope.names.lookup y ≠ _; rw [h]; decide) hnd hm] at this
  refine h _ _ _ ⟨o, fd, ho, hd, rfl⟩ _ _ s' ρ _ (hA.deeper) S' L' fun fl fl' loc' H' ρ' s'' q r S'' L'' st'' => ?_
  obtain ⟨v, H2, G, hfl, rfl, hle, hcl, hvc, q⟩ := q
  obtain ⟨ρ₁, ρ₂, rfl, e1⟩ := split_len S''.len
  obtain ⟨⟨m, e, hm⟩, k⟩ := id st''
  have hle : ρ.length ≤ ρ₁.length := by rw [e1, SS.len]; exact hle
  obtain ⟨m1, rfl⟩ : ∃ m1, ρ₁ = ρ ++ m1 := by
    have h1 : ρ <+: ρ₁ ++ ρ₂ := ⟨m, e.symm⟩
    have h2 : ρ₁ <+: ρ₁ ++ ρ₂ := List.prefix_append ..
    obtain ⟨t, e⟩ := List.prefix_of_prefix_length_le h1 h2 hle
    exact ⟨t, e.symm⟩
  have hvv : VR ((ρ ++ m1) ++ ρ₂) v (match (generalizing := false) fl' with | .ret v => v | _ => .none) := by
    subst hfl
    cases fl with
    | ret u => obtain ⟨v', rfl, hr⟩ := r; exact hr
    | next => obtain rfl := r; rfl
    | brk => obtain rfl := r; rfl
    | cont => obtain rfl := r; rfl
  refine kk v _ H2 _ s'' q (hvv.back (by rw [e1]; exact hvc)) (S''.drop e1 (hcl SS.closed)) ?_
  have := st''.drop
  refine ⟨⟨m1, rfl, fun a ha => ?_⟩, fun a o e na nP => ?_⟩
  · obtain ⟨⟨m', e', hm'⟩, _⟩ := this
    have e' := List.append_cancel_left e'
    subst e'
    cases q : s.heap.get? a with
    | none => rfl
    | some o => have := hm' a ha; rw [x.toInCall.keep a o q] at this; cases this
  · refine this.keep a o (x.toInCall.keep a o e) na nP ?_
    rintro (rfl | ⟨y, hc⟩)
    · have := fresh _ (Nat.le_refl s.heap.objs.size); rw [show (fenv fd.scope (fd.qualname ++ ".<locals>.") f fd.code s.heap.objs.size).locals = s.heap.objs.size from rfl, this] at e; cases e
    · have := fresh _ (Nat.le_of_lt (x.above y a (mem_of_lookup hc))); rw [this] at e; cases e

end
end Mine

end
section
open PySem PySem.W PySem.Calls PyProof.Rows
set_option maxRecDepth 100000
namespace Mine

def plainIter (T : String) : Prop := ["enumerate", "zip", "dict_itemiterator", "dict_reverseitemiterator", "odict_iterator", "itertools.zip_longest", "itertools.pairwise"].contains T = false

/-- an iterator that lies in no ledger -/
structure Itr (B : Wd) (ρ₀ : List Addr) (it : Addr) (items : List V) (Need : List O → Prop) (J : Nat → Heap → Prop) : Prop where
  frame : ∀ {i h h'}, J i h → (∀ o, h.get? it = some o → h'.get? it = some o) → (∀ a o, B.hb.get? a = some o → B.NP a → h'.get? a = some o) → J i h'
  there : ∀ {i h}, J i h → ∃ o T, h.get? it = some o ∧ o.cls = .type T ∧ plainIter T
  next : ∀ {A E s ρ more H i v} {QQ : Option Value → Shared → Prop}, A.handled = none → ρ = ρ₀ ++ more → SB B ρ H s → Need H → J i s.heap → items[i]? = some v →
    (∀ v' h' tk, VR ρ v v' → J (i + 1) h' → (∀ b o, b ≠ it → s.heap.get? b = some o → h'.get? b = some o) → B.t0 ≤ tk → QQ (some v') { s with heap := h', toks := tk }) → wpAny B.M A (pyNext (.ref it)) QQ E s
  done : ∀ {A E s ρ more H} {QQ : Option Value → Shared → Prop}, A.handled = none → ρ = ρ₀ ++ more → SB B ρ H s → Need H → J items.length s.heap →
    (∀ h' tk, (∀ b o, b ≠ it → s.heap.get? b = some o → h'.get? b = some o) → B.t0 ≤ tk → QQ none { s with heap := h', toks := tk }) → wpAny B.M A (pyNext (.ref it)) QQ E s
  self : ∀ {A E s i} {QQ : Value → Shared → Prop}, A.handled = none → J i s.heap → QQ (.ref it) s → wpAny B.M A (pyIter (.ref it)) QQ E s

/-- a thing to walk over -/
def IT (B : Wd) (v : V) (H : List O) (items : List V) (Need : List O → Prop) : Prop :=
  Need H ∧ ∀ (A : Around) (E : Value → Shared → Prop) (s : Shared) (ρ : List Addr) (v' : Value) (QQ : Value → Shared → Prop), A.handled = none → SB B ρ H s → VR ρ v v' →
    (∀ it J s', Itr B ρ it items Need J → J 0 s'.heap → s.heap.get? it = none → SB B ρ H s' → Step B ρ ρ s s' → QQ (.ref it) s') → wpAny B.M A (pyIter v') QQ E s

section
variable {B : Wd} {n : Nat} {H : List O}

theorem Itr.lets {ρ₀ it items Need J} (W : Itr B ρ₀ it items Need J) {A : Around} {E : Value → Shared → Prop} {s : Shared} {i : Nat} {tgt : Expr} {v : Value} {QQ : Unit → Shared → Prop} (hJ : J i s.heap) (q : QQ () s) :
    wpAny B.M A (letOwnedTupleGo tgt (.ref it) v) QQ E s := by
  obtain ⟨o, T, e, hc, hT⟩ := W.there hJ
  unfold letOwnedTupleGo
  have key : wpAny B.M A (do
      let (.ref r, .ref a) := ((Value.ref it), v) | return
      let o ← load r
      match o.cls, o.data with
      | .type n, .fields vs =>
        if ["enumerate", "zip", "dict_itemiterator", "dict_reverseitemiterator", "odict_iterator", "itertools.zip_longest", "itertools.pairwise"].contains n && vs[0]? == some (rawInt a) then
          rule "for.unpacks-the-owned-tuple"
          updateField r 0 .none
      | _, _ => pure ()) QQ E s := by
    cases v with
    | ref a =>
      refine wpAny_bind (wpAny_load e ?_)
      rw [hc]
      split
      · rename_i n vs h1 h2
        cases h1
        rw [show ["enumerate", "zip", "dict_itemiterator", "dict_reverseitemiterator", "odict_iterator", "itertools.zip_longest", "itertools.pairwise"].contains T = false from hT]
        exact wpAny_pure q
      · exact wpAny_pure q
    | _ => exact wpAny_pure q
  split
  · exact key
  · exact key
  · exact wpAny_pure q

theorem IT.list {k : Nat} {vs : List V} (hk : H[k]? = some (.list vs)) : IT B (.ref k) H vs (fun H' => H'[k]? = some (.list vs)) := by
  refine ⟨hk, fun A E s ρ v' QQ hh S hv kk => ?_⟩
  obtain ⟨a, e, rfl⟩ := hv
  obtain ⟨vs', m, g, r, hl⟩ := S.list hk e
  refine wpAny_pyIter_list hl (kk s.heap.objs.size (fun i h => h.IsListIter s.heap.objs.size a i) _ ?_ ⟨_, Heap.get?_push_size _ rfl, rfl, rfl⟩ no_new
    (S.keeps (tk := s.toks) (fun b o e => Heap.get?_push_of_some _ e) S.toks) (Step.keeps (tk := s.toks) (fun b o e => Heap.get?_push_of_some _ e)))
  refine ⟨fun j hk _ => j.at fun o e => hk o e, fun j => ?_, fun {A E s ρ' more H i v QQ} hh hρ S hN hJ hi kk => ?_, fun {A E s ρ' more H QQ} hh hρ S hN hJ kk => ?_, fun hh j q => wpAny_pyIter_listiter j q⟩
  · obtain ⟨o, e, hc, _⟩ := j; exact ⟨o, _, e, hc, by unfold plainIter; decide⟩
  · obtain ⟨vs', m, g, r, hl⟩ := S.list hN (hρ ▸ getElem?_app e)
    obtain ⟨v', hx, vv⟩ := r.get hi
    exact wpAny_pyNext_list_item hJ hl (by simpa using hx) fun h' hj hs => kk v' h' s.toks vv hj (fun b o nb e => hs.extBut b o nb e) S.toks
  · obtain ⟨vs', m, g, r, hl⟩ := S.list hN (hρ ▸ getElem?_app e)
    exact wpAny_pyNext_list_end hh hJ hl (by simp [r.length]) fun h' hs => kk h' s.toks (fun b o nb e => hs b o nb e) S.toks

def signs (x : Str) : List V := x.cps.toList.map fun c => .str ⟨#[c]⟩

theorem IT.str {x : Str} : IT B (.str x) H (signs x) (fun _ => True) := by
  refine ⟨trivial, fun A E s ρ v' QQ hh S hv kk => ?_⟩
  obtain ⟨t, rfl⟩ := hv
  have hlen : (signs x).length = x.cps.size := by simp [signs]
  have item : ∀ {i v v'}, (signs x)[i]? = some v → SignAt x i v' → ∀ ρ, VR ρ v v' := fun {i v v'} hi hs ρ => by
    obtain ⟨c, u, hc, rfl⟩ := hs
    simp only [signs, List.getElem?_map, Array.getElem?_toList, hc] at hi
    cases hi
    exact ⟨u, rfl⟩
  cases ha : x.cps.all (· < 128)
  · refine wpAny_pyIter_wide ha (kk s.heap.objs.size (fun i h => h.IsStrIter s.heap.objs.size "str_iterator" x t i) _ ?_ ⟨_, Heap.get?_push_size _ rfl, rfl, rfl⟩ no_new
      (S.keeps (tk := s.toks) (fun b o e => Heap.get?_push_of_some _ e) S.toks) (Step.keeps (tk := s.toks) (fun b o e => Heap.get?_push_of_some _ e)))
    refine ⟨fun j hk _ => let ⟨o, ho, r⟩ := j; ⟨o, hk o ho, r⟩, fun j => ?_, fun {A E s ρ' more H i v QQ} hh hρ S hN hJ hi kk => ?_, fun {A E s ρ' more H QQ} hh hρ S hN hJ kk => ?_, fun hh j q => wpAny_pyIter_striter_wide j q⟩
    · obtain ⟨o, e, hc, _⟩ := j; exact ⟨o, _, e, hc, by unfold plainIter; decide⟩
    · exact wpAny_with_toks S.toks ((Walks.strWide hh _ x t).item i s _ _ (hlen ▸ (List.getElem?_eq_some_iff.mp hi).1) hJ fun v' h' tk hp st' hk htk => kk v' h' tk (item hi hp _) st' (fun b o nb e => hk b o (by simpa using nb) e) htk)
    · exact wpAny_with_toks S.toks ((Walks.strWide hh _ x t).done s _ _ (hlen ▸ hJ) fun h' tk hk htk => kk h' tk (fun b o nb e => hk b o (by simpa using nb) e) htk)
  · refine wpAny_pyIter_ascii ha (kk s.heap.objs.size (fun i h => h.IsStrIter s.heap.objs.size "str_ascii_iterator" x t i) _ ?_ ⟨_, Heap.get?_push_size _ rfl, rfl, rfl⟩ no_new
      (S.keeps (tk := s.toks) (fun b o e => Heap.get?_push_of_some _ e) S.toks) (Step.keeps (tk := s.toks) (fun b o e => Heap.get?_push_of_some _ e)))
    refine ⟨fun j hk _ => let ⟨o, ho, r⟩ := j; ⟨o, hk o ho, r⟩, fun j => ?_, fun {A E s ρ' more H i v QQ} hh hρ S hN hJ hi kk => ?_, fun {A E s ρ' more H QQ} hh hρ S hN hJ kk => ?_, fun hh j q => wpAny_pyIter_striter_ascii j q⟩
    · obtain ⟨o, e, hc, _⟩ := j; exact ⟨o, _, e, hc, by unfold plainIter; decide⟩
    · exact wpAny_with_toks S.toks ((Walks.strAscii hh _ x t).item i s _ _ (hlen ▸ (List.getElem?_eq_some_iff.mp hi).1) hJ fun v' h' tk hp st' hk htk => kk v' h' tk (item hi hp _) st' (fun b o nb e => hk b o (by simpa using nb) e) htk)
    · exact wpAny_with_toks S.toks ((Walks.strAscii hh _ x t).done s _ _ (hlen ▸ hJ) fun h' tk hk htk => kk h' tk (fun b o nb e => hk b o (by simpa using nb) e) htk)

def rangeOf (a b : Int) : List V := (List.range (b - a).toNat).map fun i : Nat => V.int (a + i)

theorem IT.range {k : Nat} {a b : Int} (hk : H[k]? = some (.range a b)) (hs : Builtin.Range.small a b 1 = true) : IT B (.ref k) H (rangeOf a b) (fun _ => True) := by
  refine ⟨trivial, fun A E s ρ v' QQ hh S hv kk => ?_⟩
  obtain ⟨r, e, rfl⟩ := hv
  obtain ⟨t, u, v, g⟩ := S.objs k _ r hk e
  have hlen : (rangeOf a b).length = (b - a).toNat := by simp [rangeOf]
  have item : ∀ {i : Nat} {v v'}, (rangeOf a b)[i]? = some v → (∃ t, v' = .int (a + (i : Int) * 1) t) → ∀ ρ, VR ρ v v' := fun {i v v'} hi hs ρ => by
    obtain ⟨t, rfl⟩ := hs
    have hlt := (List.getElem?_eq_some_iff.mp hi).1
    rw [hlen] at hlt
    simp only [rangeOf, List.getElem?_map, List.getElem?_range hlt] at hi
    cases hi
    exact ⟨t, by rw [Int.mul_one]⟩
  refine wpAny_pyIter_range g hs (kk s.heap.objs.size (fun i h => IsRangeIter h s.heap.objs.size (a + (i : Nat) * 1) (((b - a).toNat : Int) - (i : Nat)) 1) _ ?_ ?_ no_new
    (S.keeps (tk := s.toks) (fun b o e => Heap.get?_push_of_some _ e) S.toks) (Step.keeps (tk := s.toks) (fun b o e => Heap.get?_push_of_some _ e)))
  · refine ⟨fun j hk _ => hk _ j, fun j => ?_, fun {A E s ρ' more H i v QQ} hh hρ S hN hJ hi kk => ?_, fun {A E s ρ' more H QQ} hh hρ S hN hJ kk => ?_, fun hh j q => wpAny_pyIter_rangeiter j q⟩
    · exact ⟨_, _, j, rfl, by unfold plainIter; decide⟩
    · exact wpAny_with_toks S.toks ((Walks.range hh _ a 1 (b - a).toNat).item i s _ _ (hlen ▸ (List.getElem?_eq_some_iff.mp hi).1) hJ fun v' h' tk hp st' hk htk => kk v' h' tk (item hi hp _) st' (fun b o nb e => hk b o (by simpa using nb) e) htk)
    · exact wpAny_with_toks S.toks ((Walks.range hh _ a 1 (b - a).toNat).done s _ _ (hlen ▸ hJ) fun h' tk hk htk => kk h' tk (fun b o nb e => hk b o (by simpa using nb) e) htk)
  · show IsRangeIter (s.heap.push _) _ _ _ _
    rw [PyProof.Rows.rangeSize_nat]
    have := Heap.get?_push_size s.heap (o := { cls := .type "range_iterator", data := .fields #[rawInt a, rawInt ((b - a).toNat : Int), rawInt 1] }) rfl
    simpa using this

/-- a tuple of the world that was -/
theorem IT.xtup {t : Addr} {vs : List V} {vs' : List Value} (ht : B.hb.IsTuple t vs'.toArray) (hP : t ≠ B.P) (hv : VRs [] vs vs') : IT B (.ext t) H vs (fun _ => True) := by
  refine ⟨trivial, fun A E s ρ v' QQ hh S hvv kk => ?_⟩
  obtain rfl := hvv
  have hat : ∀ h : Heap, (∀ a o, B.hb.get? a = some o → B.NP a → h.get? a = some o) → h.IsTuple t vs'.toArray := fun h hk => ht.at fun o e => hk t o e (np hP)
  refine wpAny_pyIter_tuple (hat _ S.keep) (kk s.heap.objs.size (fun i h => h.IsTupleIter s.heap.objs.size t i) _ ?_ ⟨_, Heap.get?_push_size _ rfl, rfl, rfl⟩ no_new
    (S.keeps (tk := s.toks) (fun b o e => Heap.get?_push_of_some _ e) S.toks) (Step.keeps (tk := s.toks) (fun b o e => Heap.get?_push_of_some _ e)))
  refine ⟨fun j hk _ => j.at fun o e => hk o e, fun j => ?_, fun {A E s ρ' more H i v QQ} hh hρ S hN hJ hi kk => ?_, fun {A E s ρ' more H QQ} hh hρ S hN hJ kk => ?_, fun hh j q => wpAny_pyIter_tupleiter j q⟩
  · obtain ⟨o, e, hc, _⟩ := j; exact ⟨o, _, e, hc, by unfold plainIter; decide⟩
  · obtain ⟨v', hx, vv⟩ := hv.get hi
    exact wpAny_pyNext_tuple_item hJ (hat _ S.keep) (by simpa using hx) fun h' hj hs => kk v' h' s.toks (by simpa using vv.mono (more := ρ')) hj (fun b o nb e => hs.extBut b o nb e) S.toks
  · exact wpAny_pyNext_tuple_end hh hJ (hat _ S.keep) (by simp [hv.length]) fun h' hs => kk h' s.toks (fun b o nb e => hs b o nb e) S.toks

variable {env : Env} {loc : Loc} {Q : Fl → Loc → List O → Prop}

/-- what a for statement asks -/
def ForOk (B : Wd) (n : Nat) (env : Env) (tgt : Expr) (body orelse : List Stmt) (Q : Fl → Loc → List O → Prop) (v : V) (loc : Loc) (H : List O) : Prop :=
  ∃ (items : List V) (Need : List O → Prop) (I : Nat → Loc → List O → Prop), IT B v H items Need ∧ I 0 loc H ∧ (∀ i loc H, I i loc H → Need H) ∧
    (∀ i v loc H, items[i]? = some v → I i loc H → AW B n env tgt v loc H fun loc' => FW B n env (execs body env) loc' H fun f l H' => match f with | .next => I (i + 1) l H' | .cont => I (i + 1) l H' | .brk => Q .next l H' | .ret v => Q (.ret v) l H') ∧
    (∀ loc H, I items.length loc H → FW B n env (execs orelse env) loc H Q)

theorem ST.for {tgt iter : Expr} {body orelse : List Stmt} {pos : Pos} (T : B.There) (h : EW B n env loc iter H fun v H1 => ForOk B n env tgt body orelse Q v loc H1)
    (hs : ∀ x, foldedSetIterable iter env x = pure x := by intro _; rfl) : FW B n env (exec (.For tgt iter body orelse pos) env) loc H Q := fun A E s ρ QQ hA S L kk => by
  refine wpAny_For (h A E s ρ _ hA S L fun v v' H1 ρ1 s1 q vv S1 st1 => ?_) hs
  obtain ⟨items, Need, I, hIT, hI0, hNeed, hTurn, hEnd⟩ := q
  refine hIT.2 A E s1 ρ1 v' _ hA.h S1 vv fun it J s2 W hJ0 hnew S2 st2 => ?_
  have L1 := L.step st1
  have L2 := L1.step st2
  have nit : it ∉ ρ1 ∧ it ≠ B.P ∧ B.hb.get? it = none ∧ ¬ Own env it := by
    have hP : it ≠ B.P := fun e => by obtain ⟨ob, e'⟩ := S1.tab.there; rw [← e, hnew] at e'; cases e'
    refine ⟨fun h => (by obtain ⟨ob, e⟩ := S1.mem h; rw [hnew] at e; cases e), hP, ?_, fun h => (by obtain ⟨o, e⟩ := L1.owned it h; rw [hnew] at e; cases e)⟩
    cases q : B.hb.get? it with
    | none => rfl
    | some o => rw [S1.keep it o q (np hP)] at hnew; cases hnew
  refine codeAny_forLoop_any (fun k s' => ∃ i loc' H' ρ' more, ρ' = ρ1 ++ more ∧ k = items.length + 1 - i ∧ i ≤ items.length ∧ I i loc' H' ∧ J i s'.heap ∧ SB B ρ' H' s' ∧ LocR B env loc' ρ' s'.heap ∧ it ∉ ρ' ∧
      StepX B (fun a => Own env a ∨ a = it) ρ ρ' s s') ?_ (items.length + 1) ⟨0, loc, H1, ρ1, [], by simp, rfl, Nat.zero_le _, hI0, hJ0, S2, L2, nit.1, (st1.trans S1 st2).toX⟩
  rintro k s' ⟨i, loc', H', ρ', more, hρ', rfl, hi, hI, hJ, S', L', hit, st'⟩
  have sbk : ∀ {h' : Heap} {tk : Nat}, (∀ b o, b ≠ it → s'.heap.get? b = some o → h'.get? b = some o) → B.t0 ≤ tk → SB B ρ' H' { s' with heap := h', toks := tk } := fun {h' tk} hk ht =>
    S'.other T (X := (· = it)) (fun a e => e ▸ ⟨hit, nit.2.2.1⟩) (fun b o nb e => hk b o nb e) ht
  have lk : ∀ {h' : Heap}, (∀ b o, b ≠ it → s'.heap.get? b = some o → h'.get? b = some o) → LocR B env loc' ρ' h' := fun {h'} hk => L'.at fun a o ho e => hk a o (fun q => nit.2.2.2 (q ▸ ho)) e
  have stk : ∀ {h' : Heap} {tk : Nat}, (∀ b o, b ≠ it → s'.heap.get? b = some o → h'.get? b = some o) → StepX B (fun a => Own env a ∨ a = it) ρ' ρ' s' { s' with heap := h', toks := tk } := fun {h' tk} hk =>
    ⟨⟨[], by simp, by simp⟩, fun a o e _ _ nx => hk a o (fun q => nx (.inr q)) e⟩
  have own' : ∀ a, (Own env a ∨ a = it) → ∃ o, s'.heap.get? a = some o := fun a h => h.elim (L'.owned a) fun e => by obtain ⟨o, _, e', _⟩ := W.there hJ; exact ⟨o, e ▸ e'⟩
  cases hv : items[i]? with
  | none =>
    have hil : i = items.length := by have := List.getElem?_eq_none_iff.mp hv; omega
    subst hil
    refine W.done hA.h hρ' S' (hNeed _ _ _ hI) hJ fun h' tk hk ht => ?_
    refine hEnd loc' H' hI A _ _ ρ' _ hA (sbk hk ht) (lk hk) fun f f' l H2 ρ2 s3 q2 r2 S3 L3 st3 => ?_
    have it' : ∃ o, ({ s' with heap := h', toks := tk } : Shared).heap.get? it = some o ∨ True := ⟨default, .inr trivial⟩
    have sta : StepX B (Own env) ρ ρ2 s s3 := by
      have e1 := st'.ext
      obtain ⟨m1, rfl, hm1⟩ := e1
      obtain ⟨⟨m2, rfl, hm2⟩, k3⟩ := st3
      have keep1 : ∀ a o, s.heap.get? a = some o → a ∉ ρ → B.NP a → ¬ Own env a → h'.get? a = some o := fun a o e na nP nO => by
        have nit' : a ≠ it := fun q => by
          subst q
          cases h1 : s1.heap.get? a with
          | none => have := st1.keep a o e na nP; rw [h1] at this; cases this
          | some o' => rw [hnew] at h1; cases h1
        exact hk a o nit' (st'.keep a o e na nP fun h => h.elim nO nit')
      refine ⟨⟨m1 ++ m2, by simp, fun a ha => ?_⟩, fun a o e na nP nO => ?_⟩
      · rcases List.mem_append.mp ha with h | h
        · exact hm1 a h
        · cases q : s.heap.get? a with
          | none => rfl
          | some o =>
            exfalso
            have hn := hm2 a h
            by_cases hr : a ∈ ρ
            · obtain ⟨ob, e⟩ := (sbk hk ht).mem (List.mem_append_left _ hr); rw [hn] at e; cases e
            · by_cases hP : a = B.P
              · subst hP; obtain ⟨ob, e⟩ := (sbk hk ht).tab.there; rw [hn] at e; cases e
              · by_cases hO : Own env a
                · obtain ⟨ob, e⟩ := (lk hk).owned a hO; rw [hn] at e; cases e
                · have : h'.get? a = none := hn
                  rw [keep1 a o q hr (np hP) hO] at this; cases this
      · refine k3 a o (keep1 a o e na nP nO) (fun h => ?_) nP nO
        rcases List.mem_append.mp h with h | h
        · exact na h
        · rw [hm1 a h] at e; cases e
    exact kk f f' l H2 ρ2 s3 q2 r2 S3 L3 sta
  | some v =>
    have hlt : i < items.length := (List.getElem?_eq_some_iff.mp hv).1
    refine W.next hA.h hρ' S' (hNeed _ _ _ hI) hJ hv fun v' h' tk hv' hJ' hk ht => ?_
    refine W.lets (s := { s' with heap := h', toks := tk }) hJ' ?_
    refine hTurn i v loc' H' hv hI A _ _ ρ' v' _ hA (sbk hk ht) (lk hk) hv' fun l3 s3 q3 S3 L3 st3 => ?_
    refine q3 A _ s3 ρ' _ hA S3 L3 fun f f' l4 H4 ρ4 s4 q4 r4 S4 L4 st4 => ?_
    have nL : it ≠ env.locals := fun q => nit.2.2.2 (.inl q)
    -- the iterator stays through the store and the body
    have itk : ∀ o, h'.get? it = some o → s4.heap.get? it = some o := fun o e => st4.keep it o (st3.keep it o e hit (np nit.2.1) nL) hit (np nit.2.1) nit.2.2.2
    have hJ4 : J (i + 1) s4.heap := W.frame hJ' itk fun a o e nP => S4.keep a o e nP
    have h34 : StepX B (fun a => Own env a ∨ a = it) ρ' ρ4 { s' with heap := h', toks := tk } s4 :=
      (st3.wide fun a e => Or.inl (Or.inl e)).trans S3 (fun a h => h.elim (L3.owned a) fun e => by
        obtain ⟨o, _, e', _⟩ := W.there hJ'; exact ⟨o, e ▸ st3.keep it o e' hit (np nit.2.1) nL⟩) (st4.wide fun a e => Or.inl e)
    have own2 : ∀ a, (Own env a ∨ a = it) → ∃ o, h'.get? a = some o := fun a h => h.elim ((lk hk).owned a) fun e => by obtain ⟨o, _, e', _⟩ := W.there hJ'; exact ⟨o, e ▸ e'⟩
    have stall : StepX B (fun a => Own env a ∨ a = it) ρ ρ4 s s4 := (st'.trans S' own' (stk (tk := tk) hk)).trans (sbk hk ht) own2 h34
    obtain ⟨m4, hm4, hm4'⟩ := st4.ext
    have hit4 : it ∉ ρ4 := fun h => by
      rw [hm4] at h
      rcases List.mem_append.mp h with h | h
      · exact hit h
      · have := hm4' it h
        obtain ⟨o, _, e', _⟩ := W.there hJ'
        rw [st3.keep it o e' hit (np nit.2.1) nL] at this; cases this
    have sout : StepX B (Own env) ρ ρ4 s s4 := ⟨stall.ext, fun a o e na nP nO => stall.keep a o e na nP fun h => h.elim nO fun q => by
      subst q
      cases h1 : s1.heap.get? a with
      | none => have := st1.keep a o e na nP; rw [h1] at this; cases this
      | some o' => rw [hnew] at h1; cases h1⟩
    cases f with
    | next =>
      obtain rfl := r4
      exact ⟨items.length + 1 - (i + 1), by omega, i + 1, l4, H4, ρ4, more ++ m4, by rw [hm4, hρ']; simp, rfl, hlt, q4, hJ4, S4, L4, hit4, stall⟩
    | cont =>
      obtain rfl := r4
      exact ⟨items.length + 1 - (i + 1), by omega, i + 1, l4, H4, ρ4, more ++ m4, by rw [hm4, hρ']; simp, rfl, hlt, q4, hJ4, S4, L4, hit4, stall⟩
    | brk =>
      obtain rfl := r4
      exact kk .next _ l4 H4 ρ4 s4 q4 rfl S4 L4 sout
    | ret u =>
      obtain ⟨u', rfl, hu⟩ := r4
      exact kk (.ret u) _ l4 H4 ρ4 s4 q4 ⟨u', rfl, hu⟩ S4 L4 sout

/-- while -/
theorem ST.while {test : Expr} {body orelse : List Stmt} {pos : Pos} (I : Nat → Loc → List O → Prop) (k0 : Nat) (h0 : I k0 loc H)
    (h : ∀ k loc H, I k loc H → TW B n env loc test H fun b H1 => cond b (FW B n env (execs body env) loc H1 fun f l H' => match f with | .next => ∃ m, m < k ∧ I m l H' | .cont => ∃ m, m < k ∧ I m l H' | .brk => Q .next l H' | .ret v => Q (.ret v) l H') (FW B n env (execs orelse env) loc H1 Q)) :
    FW B n env (exec (.While test body orelse pos) env) loc H Q := fun A E s ρ QQ hA S L kk => by
  refine wpAny_While (codeAny_whileLoop (fun k s' => ∃ loc' H' ρ', I k loc' H' ∧ SB B ρ' H' s' ∧ LocR B env loc' ρ' s'.heap ∧ StepX B (Own env) ρ ρ' s s') ?_ k0 ⟨loc, H, ρ, h0, S, L, Step.refl.toX⟩)
  rintro k s' ⟨loc', H', ρ', hI, S', L', st'⟩
  refine h k loc' H' hI A _ s' ρ' _ hA S' L' fun b H1 ρ1 s1 q S1 st1 => ?_
  have st2 := st'.trans S' L'.owned st1.toX
  have L1 := L'.step st1
  cases b with
  | true =>
    simp only [if_true]
    refine q A _ s1 ρ1 _ hA S1 L1 fun f f' l4 H4 ρ4 s4 q4 r4 S4 L4 st4 => ?_
    have st5 := st2.trans S1 L1.owned st4
    cases f with
    | next => obtain rfl := r4; obtain ⟨m, hm, q4⟩ := q4; exact ⟨m, hm, l4, H4, ρ4, q4, S4, L4, st5⟩
    | cont => obtain rfl := r4; obtain ⟨m, hm, q4⟩ := q4; exact ⟨m, hm, l4, H4, ρ4, q4, S4, L4, st5⟩
    | brk => obtain rfl := r4; exact kk .next _ l4 H4 ρ4 s4 q4 rfl S4 L4 st5
    | ret u => obtain ⟨u', rfl, hu⟩ := r4; exact kk (.ret u) _ l4 H4 ρ4 s4 q4 ⟨u', rfl, hu⟩ S4 L4 st5
  | false =>
    exact q A _ s1 ρ1 _ hA S1 L1 fun f f' l4 H4 ρ4 s4 q4 r4 S4 L4 st4 => kk f f' l4 H4 ρ4 s4 q4 r4 S4 L4 (st2.trans S1 L1.owned st4)

end
end Mine

end
section
open PySem PySem.W PySem.Calls PyProof.Rows
set_option maxRecDepth 100000
namespace Mine

/-- what a comprehension sees of its frame -/
def locC (S : Scope) (loc : Loc) : Loc := fun x => if S.names.lookup x == some .free then loc x else none

def freesOk (S : Scope) (env : Env) : Bool := S.names.all fun x => x.2 != .free || ((env.cells.lookup x.1).isSome && env.kindOf x.1 == some .cell)
def namesOk (S : Scope) : Bool := S.names.all fun x => x.2 != .cell && (x.2 != .local || S.names.lookup x.1 == some .local) && (x.2 != .free || S.names.lookup x.1 == some .free)

def closOf (env : Env) : List (Str × NameKind) → List (Str × Addr) → List (Str × Addr)
  | [], acc => acc
  | (x, k) :: r, acc => if k == .free then closOf env r ((x, (env.cells.lookup x).getD 0) :: acc) else closOf env r acc

theorem closOf_for {env : Env} : ∀ (names : List (Str × NameKind)) (acc : List (Str × Addr)), (names.all fun x => x.2 != .free || ((env.cells.lookup x.1).isSome && env.kindOf x.1 == some .cell)) = true →
    (forIn names acc (fun (x : Str × NameKind) (r : List (Str × Addr)) => if (x.2 == .free) = true then do let a ← cellOf env x.1; pure (ForInStep.yield ((x.1, a) :: r)) else pure (ForInStep.yield r)) : Sem (List (Str × Addr))) = pure (closOf env names acc)
  | [], acc, _ => rfl
  | (x, k) :: r, acc, h => by
    simp only [List.all_cons, Bool.and_eq_true] at h
    rw [List.forIn_cons]
    unfold closOf
    by_cases hk : (k == NameKind.free) = true
    · simp only [hk, if_true]
      have h1 := h.1
      have hk' : k = .free := by simpa using hk
      subst hk'
      simp only [bne_self_eq_false, Bool.false_or, Bool.and_eq_true, beq_iff_eq] at h1
      obtain ⟨c, hc⟩ := Option.isSome_iff_exists.mp h1.1
      rw [show cellOf env x = pure c by unfold cellOf; rw [hc]]
      rw [pure_bind, pure_bind]
      dsimp only
      rw [closOf_for r _ h.2, hc]; rfl
    · simp only [hk, if_false, Bool.false_eq_true]
      rw [pure_bind]
      exact closOf_for r acc h.2

theorem closOf_is {env : Env} {S : Scope} (h : freesOk S env = true) : closureFor S env = pure (closOf env S.names []) := by
  have := closOf_for (env := env) S.names [] h
  unfold closureFor
  simp only [this]
  rfl

theorem closOf_mem {env : Env} : ∀ (names : List (Str × NameKind)) (acc : List (Str × Addr)), (names.all fun x => x.2 != .free || ((env.cells.lookup x.1).isSome && env.kindOf x.1 == some .cell)) = true →
    (∀ x c, (x, c) ∈ acc → env.cells.lookup x = some c) → ∀ x c, (x, c) ∈ closOf env names acc → env.cells.lookup x = some c
  | [], _, _, h, x, c, m => h x c m
  | (y, k) :: r, acc, ha, h, x, c, m => by
    simp only [List.all_cons, Bool.and_eq_true] at ha
    unfold closOf at m
    split at m
    · rename_i hk
      have hk' : k = .free := by simpa using hk
      subst hk'
      have h1 := ha.1
      simp only [bne_self_eq_false, Bool.false_or, Bool.and_eq_true, beq_iff_eq] at h1
      obtain ⟨d, hd⟩ := Option.isSome_iff_exists.mp h1.1
      refine closOf_mem r _ ha.2 (fun z e hz => ?_) x c m
      rcases List.mem_cons.mp hz with q | q
      · cases q; rw [hd]; rfl
      · exact h z e q
    · exact closOf_mem r _ ha.2 h x c m

theorem closOf_keeps {env : Env} {x : Str} {c : Addr} : ∀ (names : List (Str × NameKind)) (acc : List (Str × Addr)), (x, c) ∈ acc → (x, c) ∈ closOf env names acc
  | [], _, h => h
  | (y, k) :: r, acc, h => by
    unfold closOf
    split
    · exact closOf_keeps r _ (.tail _ h)
    · exact closOf_keeps r _ h
theorem closOf_has {env : Env} {x : Str} {c : Addr} (hc : env.cells.lookup x = some c) : ∀ (names : List (Str × NameKind)) (acc : List (Str × Addr)), names.lookup x = some .free → (x, c) ∈ closOf env names acc
  | [], _, h => by simp at h
  | (y, k) :: r, acc, h => by
    rw [List.lookup_cons] at h
    unfold closOf
    cases hx : x == y with
    | true =>
      rw [hx] at h; cases h
      have : x = y := beq_iff_eq.mp hx
      subst this
      simp only [beq_self_eq_true, if_true]
      exact closOf_keeps r _ (by rw [hc]; exact .head _)
    | false =>
      rw [hx] at h
      split
      · exact closOf_has hc r _ h
      · exact closOf_has hc r _ h

theorem lookup_mem_some {x : Str} {c : Addr} : ∀ {l : List (Str × Addr)}, (x, c) ∈ l → ∃ d, l.lookup x = some d
  | (y, e) :: r, h => by
    rw [List.lookup_cons]
    cases hx : x == y with
    | true => exact ⟨e, rfl⟩
    | false =>
      rcases List.mem_cons.mp h with q | q
      · cases q; simp at hx
      · exact lookup_mem_some q

theorem relabel_free {env : Env} {x : Str} (hk : env.scope.kind = .function) (hx : env.kindOf x = some .cell) : ∀ {names : List (Str × NameKind)}, names.lookup x = some .free →
    (names.map fun (n, k) => if (k == NameKind.free && env.scope.kind == .function && env.kindOf n == some .cell) then (n, NameKind.cell) else (n, k)).lookup x = some .cell
  | [], h => by simp at h
  | (n, k) :: r, h => by
    have ih := @relabel_free env x hk hx r
    show List.lookup x ((if (k == NameKind.free && env.scope.kind == .function && env.kindOf n == some .cell) = true then (n, NameKind.cell) else (n, k)) :: _) = _
    cases hxn : x == n with
    | true =>
      simp only [List.lookup_cons, hxn] at h
      cases h
      have : x = n := beq_iff_eq.mp hxn
      subst this
      simp [hk, hx, List.lookup_cons]
    | false =>
      simp only [List.lookup_cons, hxn] at h
      split
      · simp only [List.lookup_cons, hxn]; exact ih h
      · simp only [List.lookup_cons, hxn]; exact ih h

theorem lookup_mem {x : Str} {k : NameKind} : ∀ {l : List (Str × NameKind)}, l.lookup x = some k → (x, k) ∈ l
  | (y, e) :: r, h => by
    rw [List.lookup_cons] at h
    cases hx : x == y with
    | true => rw [hx] at h; cases h; rw [beq_iff_eq.mp hx]; exact .head _
    | false => rw [hx] at h; exact .tail _ (lookup_mem h)

section
variable {B : Wd} {n : Nat} {env : Env} {loc : Loc} {H : List O}

/-- the frame of a comprehension -/
theorem LocR.comp {S : Scope} {ρ : List Addr} {h h' : Heap} {C : Addr} (L : LocR B env loc ρ h) (hS : S.kind = .function) (hf : freesOk S env = true) (hk : ∀ b o, h.get? b = some o → h'.get? b = some o)
    (hC : h'.Ns C fun _ => none) (hnew : h.get? C = none) (h1 : C ∉ ρ) (h2 : C ≠ B.P) (h3 : B.hb.get? C = none) : LocR B (compEnvC S (closOf env S.names []) C env) (locC S loc) ρ h' := by
  have sub : ∀ x c, (closOf env S.names []).lookup x = some c → env.cells.lookup x = some c := fun x c e => closOf_mem S.names [] hf (fun _ _ m => by cases m) x c (mem_of_lookup e)
  refine ⟨hS, L.glob, L.bu, h1, h2, h3, fun x c e => ?_, fun x y c e e' => L.apart x y c (sub x c e) (sub y c e'), _, hC, fun x v e => ?_⟩
  · obtain ⟨m1, m2, m3, m4, v, o, ho, hd⟩ := L.cells x c (sub x c e)
    exact ⟨m1, m2, fun q => (by rw [show (compEnvC S (closOf env S.names []) C env).locals = C from rfl] at q; rw [q, hnew] at ho; cases ho), m4, v, o, hk c o ho, hd⟩
  · unfold locC at e
    split at e
    · rename_i hx
      have hx : S.names.lookup x = some .free := by simpa using hx
      have hm := List.all_eq_true.mp hf _ (lookup_mem hx)
      simp only [bne_self_eq_false, Bool.false_or, Bool.and_eq_true, beq_iff_eq] at hm
      obtain ⟨c, hc⟩ := Option.isSome_iff_exists.mp hm.1
      obtain ⟨m, hn, hv⟩ := L.ns
      obtain ⟨d, hd⟩ := lookup_mem_some (closOf_has hc S.names [] hx)
      have hdc := sub x d hd
      rw [hc] at hdc; cases hdc
      rcases hv x v e with ⟨a, _⟩ | ⟨_, c', v', b, ⟨o, ho, hdd⟩, r⟩
      · rw [hm.2] at a; cases a
      · rw [hc] at b; cases b
        exact .inr ⟨.inl (relabel_free L.kind hm.2 hx), c, v', hd, ⟨o, hk c o ho, hdd⟩, r⟩
    · cases e

variable {prog : Program} {w : World} in
theorem compLoop_gen {A : Around} {s : Shared} {R : Result → Shared → Prop} {elt target iter : Expr} {ifs : List Expr} {scope : Scope} {pos : Pos} {it acc : Value} {env : Env} (I : Nat → Shared → Prop)
    (turn : ∀ n s, I n s → wpAny (model prog w) A (pyNext it) (fun r s₁ => match r with
      | none => R (.ok .next) s₁
      | some v => wpAny (model prog w) A (letOwnedTupleGo target it v) (fun _ s₁' => wpAny (model prog w) A (assign target env v) (fun _ s₂ =>
          wpAny (model prog w) A (forIn ifs true fun c r => if r = true then do let ok ← isTrue c env (eval c env); pure (ForInStep.yield ok) else pure (ForInStep.yield r)) (fun ok s₃ =>
            if ok = true then wpAny (model prog w) A (eval elt env) (fun x s₄ =>
              wpAny (model prog w) A (call (.builtin "list.append") [acc, x]) (fun _ s₅ => ∃ m, m < n ∧ I m s₅) (notedBy (model prog w) A env fun e s' => R (.error e) s') s₄) (notedBy (model prog w) A env fun e s' => R (.error e) s') s₃
            else ∃ m, m < n ∧ I m s₃) (notedBy (model prog w) A env fun e s' => R (.error e) s') s₂) (notedBy (model prog w) A env fun e s' => R (.error e) s') s₁') (notedBy (model prog w) A env fun e s' => R (.error e) s') s₁) (notedBy (model prog w) A env fun e s' => R (.error e) s') s)
    (n : Nat) (h : I n s) : codeAny (model prog w) A (.compLoop (.ListComp elt [⟨target, iter, ifs, 0⟩] scope pos) 0 it acc env) R s := by
  refine codeAny_loop rfl I (fun n s hI => ?_) n h
  show wpAny _ A ((compTurn (.ListComp elt [⟨target, iter, ifs, 0⟩] scope pos) 0 it acc env).onRaise (fun x => do noteFrame x env; theTreesLotGoes x)) _ _ s
  refine wpAny_noted ?_
  rw [compTurn_list]
  refine wpAny_bind (wpAny_standAt (wpAny_bind (wpAny_mono (turn n s hI) (fun r s₁ h₁ => ?_) fun _ _ h' => h')))
  cases r with
  | none => exact wpAny_pure h₁
  | some v =>
    refine wpAny_bind (wpAny_mono h₁ (fun _ s₁' h₁' => ?_) fun _ _ h' => h')
    refine wpAny_bind (wpAny_mono h₁' (fun _ s₂ h₂ => wpAny_bind (wpAny_mono h₂ (fun ok s₃ h₃ => ?_) fun _ _ h' => h')) fun _ _ h' => h')
    cases ok with
    | false => exact wpAny_pure ⟨rfl, h₃⟩
    | true => exact wpAny_bind (wpAny_bind (wpAny_mono h₃ (fun x s₄ h₄ => wpAny_bind (wpAny_mono h₄ (fun _ s₅ h₅ => wpAny_pure (wpAny_pure ⟨rfl, h₅⟩)) fun _ _ h' => h')) fun _ _ h' => h'))

/-- the tests of a comprehension: none, or one -/
def TestsW (B : Wd) (n : Nat) (env : Env) (loc : Loc) (ifs : List Expr) (H : List O) (Q : Bool → List O → Prop) : Prop :=
  match ifs with
  | [] => Q true H
  | [c] => TW B n env loc c H Q
  | _ => False

/-- what a comprehension asks -/
def CompOk (B : Wd) (n : Nat) (env : Env) (S : Scope) (elt tgt : Expr) (ifs : List Expr) (Fin : List V → List O → Prop) (v : V) (loc : Loc) (H : List O) : Prop :=
  ∃ (items : List V) (Need : List O → Prop) (I : Nat → List V → List O → Prop), IT B v H items Need ∧ items.length ≤ sizeLine ∧ I 0 [] H ∧ (∀ i acc H, I i acc H → Need H ∧ acc.length ≤ i) ∧
    (∀ i v acc H C, items[i]? = some v → I i acc H → AW B n (compEnvC S (closOf env S.names []) C env) tgt v (locC S loc) H fun loc' => (∀ x v, locC S loc x = some v → loc' x = some v) ∧
      TestsW B n (compEnvC S (closOf env S.names []) C env) loc' ifs H fun b H' => cond b (EW B n (compEnvC S (closOf env S.names []) C env) loc' elt H' fun r H'' => I (i + 1) (acc ++ [r]) H'') (I (i + 1) acc H')) ∧
    (∀ acc H, I items.length acc H → Fin acc H)

theorem SB.add {ρ : List Addr} {s : Shared} {D : Addr} {vs : List V} {vs' : List Value} {m : Nat} (S : SB B ρ H s) (h1 : D ∉ ρ) (h2 : B.hb.get? D = none) (g : s.heap.get? D = some (listOf vs'.toArray m)) (hv : VRs ρ vs vs') : SB B (ρ ++ [D]) (H ++ [.list vs]) s := by
  refine ⟨S.keep, fun b hb => ?_, by simp [S.len], ?_, fun k o' b e e' => ?_, S.tab, S.gens, S.os, S.toks⟩
  · rcases List.mem_append.mp hb with h | h
    · exact S.fresh b h
    · rw [List.mem_singleton.mp h]; exact h2
  · rw [List.nodup_append]
    refine ⟨S.nodup, by simp, fun x hx y hy => ?_⟩
    rw [List.mem_singleton.mp hy]; rintro rfl; exact h1 hx
  · by_cases hlt : k < H.length
    · rw [List.getElem?_append_left hlt] at e
      rw [List.getElem?_append_left (by rw [S.len]; exact hlt)] at e'
      exact (S.objs k o' b e e').at fun ob e => e
    · have hk1 : k < (H ++ [O.list vs]).length := (List.getElem?_eq_some_iff.mp e).1
      have hk2 : k = H.length := by simp at hk1; omega
      subst hk2
      rw [List.getElem?_append_right (Nat.le_refl _)] at e
      rw [List.getElem?_append_right (by rw [S.len]; exact Nat.le_refl _), S.len] at e'
      simp at e e'
      subst e e'
      exact ⟨vs', m, g, hv.mono⟩

theorem comp_core {elt tgt iter : Expr} {ifs : List Expr} {S : Scope} {pos : Pos} {A : Around} {E : Value → Shared → Prop} {s2 : Shared} {ρ : List Addr} {it : Addr} {items : List V} {Need : List O → Prop} {J : Nat → Heap → Prop}
    {I : Nat → List V → List O → Prop} {RR : Value → Addr → Result → Shared → Prop} (T : B.There) (hA : AOk n A) (S2 : SB B ρ H s2) (L2 : LocR B env loc ρ s2.heap) (W : Itr B ρ it items Need J) (hJ0 : J 0 s2.heap)
    (hit : it ∉ ρ ∧ it ≠ B.P ∧ B.hb.get? it = none ∧ ¬ Own env it)
    (hkind : S.kind = .function) (hf : freesOk S env = true) (hnm : namesOk S = true)
    (hsz : items.length ≤ sizeLine) (hI0 : I 0 [] H) (hNeed : ∀ i acc H, I i acc H → Need H ∧ acc.length ≤ i)
    (hTurn : ∀ i v acc H C, items[i]? = some v → I i acc H → AW B n (compEnvC S (closOf env S.names []) C env) tgt v (locC S loc) H fun loc' => (∀ x v, locC S loc x = some v → loc' x = some v) ∧
      TestsW B n (compEnvC S (closOf env S.names []) C env) loc' ifs H fun b H' => cond b (EW B n (compEnvC S (closOf env S.names []) C env) loc' elt H' fun r H'' => I (i + 1) (acc ++ [r]) H'') (I (i + 1) acc H'))
    (hRR : ∀ D C acc H' ρ' s' m', I items.length acc H' → SB B (ρ' ++ [D]) (H' ++ [.list acc]) s' → StepX B (fun a => a = it) ρ (ρ' ++ [D]) s2 s' → s'.heap.Ns C m' → C ∉ ρ' ++ [D] → C ≠ B.P → B.hb.get? C = none → s2.heap.get? C = none → RR (.ref D) C (.ok .next) s') :
    wpAny B.M A (newList []) (fun acc s₃ => wpAny B.M A (newFunctionEnv S env.globals (closOf env S.names []) [] env.qual none .none (some env)) (fun cenv s₄ =>
      codeAny B.M A (.compStart (.ListComp elt [⟨tgt, iter, ifs, 0⟩] S pos) 0 (.ref it) acc { cenv with scope := relabel S env }) (RR acc cenv.locals) s₄) E s₃) E s2 := by
  have hcell : ∀ y ∈ S.names, y.2 ≠ .cell := fun y hy => by
    have := List.all_eq_true.mp hnm y hy
    simp at this
    exact this.1.1
  refine wpAny_newObj_type (wpAny_newFunctionEnv hcell (by intro y hy; simp at hy) (fun h₁ hns₁ hsb₁ => ?_) hkind)
  dsimp only at hns₁ hsb₁ ⊢
  generalize hH2 : s2.heap.push { cls := .type "list", dict := none, data := .seq ([] : List Value).toArray } = H2 at hns₁ hsb₁ ⊢
  have hC : H2.objs.size = s2.heap.objs.size + 1 := by rw [← hH2, Heap.size_push]
  have hDC : s2.heap.objs.size ≠ H2.objs.size := by rw [hC]; exact Nat.ne_of_lt (Nat.lt_succ_self _)
  have old : ∀ b o, s2.heap.get? b = some o → h₁.get? b = some o := fun b o e => hsb₁.extBut b o (by rw [hC]; exact Nat.ne_of_lt (Nat.lt_succ_of_lt (Heap.lt_size e))) (Heap.get?_push_of_some _ (hH2 ▸ Heap.get?_push_of_some _ e))
  have hacc : h₁.PlainList s2.heap.objs.size #[] := ⟨_, hsb₁.extBut _ _ hDC (Heap.get?_push_of_some _ (hH2 ▸ Heap.get?_push_size _ rfl))⟩
  generalize hDD : s2.heap.objs.size = D at *
  generalize hCC : H2.objs.size = C at *
  have hDn : s2.heap.get? D = none := Heap.get?_none_of_le (by omega)
  have hCn : s2.heap.get? C = none := Heap.get?_none_of_le (by omega)
  have notin : ∀ a, s2.heap.get? a = none → a ∉ ρ ∧ a ≠ B.P ∧ B.hb.get? a = none := fun a ha => by
    have hP : a ≠ B.P := fun e => by obtain ⟨ob, e'⟩ := S2.tab.there; rw [← e, ha] at e'; cases e'
    refine ⟨fun h => (by obtain ⟨ob, e⟩ := S2.mem h; rw [ha] at e; cases e), hP, ?_⟩
    cases q : B.hb.get? a with
    | none => rfl
    | some o => rw [S2.keep a o q (np hP)] at ha; cases ha
  obtain ⟨d1, d2, d3⟩ := notin D hDn
  obtain ⟨c1, c2, c3⟩ := notin C hCn
  obtain ⟨i1, i2, i3, i4⟩ := hit
  have hitd : it ≠ D := fun q => by obtain ⟨o, _, e, _⟩ := W.there hJ0; rw [q, hDn] at e; cases e
  have hitc : it ≠ C := fun q => by obtain ⟨o, _, e, _⟩ := W.there hJ0; rw [q, hCn] at e; cases e
  have S4 : SB B ρ H { s2 with heap := h₁, toks := s2.toks + ([] : List (Str × Value)).length } := S2.keeps old (by have := S2.toks; simp; omega)
  have L4 : LocR B (compEnvC S (closOf env S.names []) C env) (locC S loc) ρ h₁ := L2.comp hkind hf old hns₁ hCn c1 c2 c3
  have hJ4 : J 0 h₁ := W.frame hJ0 (fun o e => old it o e) S4.keep
  have loop : ∀ s₃ : Shared, s₃ = { s2 with heap := h₁, toks := s2.toks + ([] : List (Str × Value)).length } →
      codeAny B.M A (.compLoop (.ListComp elt [⟨tgt, iter, ifs, 0⟩] S pos) 0 (.ref it) (.ref D) (compEnvC S (closOf env S.names []) C env)) (RR (.ref D) C) s₃ := by
    rintro s₃ rfl
    refine compLoop_gen (fun k s' => ∃ i acc H' ρ' more ys, ρ' = ρ ++ more ∧ k = items.length + 1 - i ∧ i ≤ items.length ∧ I i acc H' ∧ J i s'.heap ∧ SB B ρ' H' s' ∧ LocR B (compEnvC S (closOf env S.names []) C env) (locC S loc) ρ' s'.heap ∧
      it ∉ ρ' ∧ D ∉ ρ' ∧ C ∉ ρ' ∧ s'.heap.PlainList D ys ∧ VRs ρ' acc ys.toList ∧ StepX B (fun a => a = C ∨ a = it ∨ a = D) ρ ρ' s2 s') ?_ (items.length + 1)
      ⟨0, [], H, ρ, [], #[], by simp, rfl, Nat.zero_le _, hI0, hJ4, S4, L4, i1, d1, c1, hacc, .nil, (Step.keeps (tk := s2.toks + ([] : List (Str × Value)).length) old).toX⟩
    rintro k s' ⟨i, acc, H', ρ', more, ys, hρ', rfl, hi, hI, hJ, S', L', n1, n2, n3, hD, hV, st'⟩
    have exX : ∀ {h' : Heap}, (∃ o, h'.get? it = some o) → (∃ o, h'.get? D = some o) → (∃ o, h'.get? C = some o) → ∀ a, (a = C ∨ a = it ∨ a = D) → ∃ o, h'.get? a = some o := fun e1 e2 e3 a h => by
      rcases h with rfl | rfl | rfl
      · exact e3
      · exact e1
      · exact e2
    have hlocC : (compEnvC S (closOf env S.names []) C env).locals = C := rfl
    have ownC : ∃ o, s'.heap.get? C = some o := L'.owned C (.inl rfl)
    have ownI : ∃ o, s'.heap.get? it = some o := by obtain ⟨o, _, e, _⟩ := W.there hJ; exact ⟨o, e⟩
    have ownD : ∃ o, s'.heap.get? D = some o := let ⟨m, e⟩ := hD; ⟨_, e⟩
    have notOwn : ∀ a, a = it ∨ a = D → ¬ Own (compEnvC S (closOf env S.names []) C env) a := fun a h hO => by
      rcases hO with hO | ⟨x, hx⟩
      · rw [hlocC] at hO
        rcases h with rfl | rfl
        · exact hitc hO
        · exact hDC hO
      · have hx' : env.cells.lookup x = some a := closOf_mem S.names [] hf (fun _ _ m => by cases m) x a (mem_of_lookup hx)
        rcases h with rfl | rfl
        · exact i4 (.inr ⟨x, hx'⟩)
        · obtain ⟨_, _, _, _, v, o, ho, _⟩ := L2.cells x a hx'; rw [hDn] at ho; cases ho
    have sbk : ∀ {h' : Heap} {tk : Nat}, (∀ b o, b ≠ it → s'.heap.get? b = some o → h'.get? b = some o) → B.t0 ≤ tk → SB B ρ' H' { s' with heap := h', toks := tk } := fun {h' tk} hk ht =>
      S'.other T (X := (· = it)) (fun a e => e ▸ ⟨n1, i3⟩) (fun b o nb e => hk b o nb e) ht
    have lk : ∀ {h' : Heap}, (∀ b o, b ≠ it → s'.heap.get? b = some o → h'.get? b = some o) → LocR B (compEnvC S (closOf env S.names []) C env) (locC S loc) ρ' h' := fun {h'} hk => L'.at fun a o ho e => hk a o (fun q => notOwn a (.inl q) ho) e
    have stk : ∀ {h' : Heap} {tk : Nat}, (∀ b o, b ≠ it → s'.heap.get? b = some o → h'.get? b = some o) → StepX B (fun a => a = C ∨ a = it ∨ a = D) ρ' ρ' s' { s' with heap := h', toks := tk } := fun {h' tk} hk =>
      ⟨⟨[], by simp, by simp⟩, fun a o e _ _ nx => hk a o (fun q => nx (.inr (.inl q))) e⟩
    cases hv : items[i]? with
    | none =>
      have hil : i = items.length := by have := List.getElem?_eq_none_iff.mp hv; omega
      subst hil
      refine W.done hA.h hρ' S' (hNeed _ _ _ hI).1 hJ fun h' tk hk ht => ?_
      obtain ⟨md, hd⟩ := hD
      obtain ⟨m', hns', _⟩ := (lk hk).ns
      have stt := st'.trans S' (exX ownI ownD ownC) (stk (tk := tk) hk)
      refine hRR D C acc H' ρ' _ m' hI ((sbk hk ht).add (vs' := ys.toList) (m := md) n2 d3 (by simpa using hk D _ (Ne.symm hitd) hd) hV) ⟨?_, ?_⟩ hns' (fun h => ?_) c2 c3 hCn
      · obtain ⟨mm, e, hm⟩ := stt.ext
        refine ⟨mm ++ [D], by rw [e]; simp, fun a ha => ?_⟩
        rcases List.mem_append.mp ha with h | h
        · exact hm a h
        · rw [List.mem_singleton.mp h]; exact hDn
      · refine fun a o e na nP nx => stt.keep a o e na nP fun h => ?_
        rcases h with rfl | rfl | rfl
        · rw [hCn] at e; cases e
        · exact nx rfl
        · rw [hDn] at e; cases e
      · rcases List.mem_append.mp h with h | h
        · exact n3 h
        · exact hDC (List.mem_singleton.mp h).symm
    | some v =>
      have hlt : i < items.length := (List.getElem?_eq_some_iff.mp hv).1
      refine W.next hA.h hρ' S' (hNeed _ _ _ hI).1 hJ hv fun v' h' tk hv' hJ' hk ht => ?_
      refine W.lets (s := { s' with heap := h', toks := tk }) hJ' ?_
      refine hTurn i v acc H' C hv hI A _ _ ρ' v' _ hA (sbk hk ht) (lk hk) hv' fun l3 s3 q3 S3 L3 st3 => ?_
      obtain ⟨hl3, q3⟩ := q3
      have stD : ∀ o, s'.heap.get? D = some o → s3.heap.get? D = some o := fun o e => st3.keep D o (hk D o (Ne.symm hitd) e) n2 (np d2) (fun q => hDC q)
      have itk3 : ∀ o, h'.get? it = some o → s3.heap.get? it = some o := fun o e => st3.keep it o e n1 (np i2) (fun q => hitc q)
      have hI' : ∃ o, h'.get? it = some o := by obtain ⟨o, _, e, _⟩ := W.there hJ'; exact ⟨o, e⟩
      have st13 : StepX B (fun a => a = C ∨ a = it ∨ a = D) ρ ρ' s2 s3 :=
        (st'.trans S' (exX ownI ownD ownC) (stk (tk := tk) hk)).trans (sbk hk ht) (exX hI' (let ⟨o, e⟩ := ownD; ⟨o, hk D o (Ne.symm hitd) e⟩) ((lk hk).owned C (.inl rfl))) (st3.wide fun a e => Or.inl e)
      -- the tests
      have tests : ∀ QQ : Bool → Shared → Prop, (∀ b H5 ρ5 s5, (cond b (EW B n (compEnvC S (closOf env S.names []) C env) l3 elt H5 fun r H'' => I (i + 1) (acc ++ [r]) H'') (I (i + 1) acc H5)) → SB B ρ5 H5 s5 → Step B ρ' ρ5 s3 s5 → QQ b s5) →
          wpAny B.M A (forIn ifs true fun c r => if r = true then do let ok ← isTrue c (compEnvC S (closOf env S.names []) C env) (eval c (compEnvC S (closOf env S.names []) C env)); pure (ForInStep.yield ok) else pure (ForInStep.yield r)) QQ
            (notedBy B.M A (compEnvC S (closOf env S.names []) C env) fun e s' => RR (.ref D) C (.error e) s') s3 := fun QQ hQ => by
        match ifs, q3 with
        | [], q3 => exact wpAny_tests_nil (hQ true H' ρ' s3 q3 S3 Step.refl)
        | [c], q3 => exact wpAny_tests_one (q3 A _ s3 ρ' _ hA S3 L3 fun b H5 ρ5 s5 q5 S5 st5 => hQ b H5 ρ5 s5 q5 S5 st5)
      refine tests _ fun b H5 ρ5 s5 q5 S5 st5 => ?_
      obtain ⟨m5, hm5, hm5'⟩ := st5.ext
      have n1' : it ∉ ρ5 := fun h => by
        rw [hm5] at h
        rcases List.mem_append.mp h with h | h
        · exact n1 h
        · obtain ⟨o, e⟩ := hI'; have := hm5' it h; rw [itk3 o e] at this; cases this
      have n2' : D ∉ ρ5 := fun h => by
        rw [hm5] at h
        rcases List.mem_append.mp h with h | h
        · exact n2 h
        · obtain ⟨o, e⟩ := ownD; have := hm5' D h; rw [stD o e] at this; cases this
      have n3' : C ∉ ρ5 := fun h => by
        rw [hm5] at h
        rcases List.mem_append.mp h with h | h
        · exact n3 h
        · obtain ⟨o, e⟩ := L3.owned C (.inl rfl); have := hm5' C h; rw [e] at this; cases this
      have itk5 : ∀ o, h'.get? it = some o → s5.heap.get? it = some o := fun o e => st5.keep it o (itk3 o e) n1 (np i2)
      have stD5 : ∀ o, s'.heap.get? D = some o → s5.heap.get? D = some o := fun o e => st5.keep D o (stD o e) n2 (np d2)
      have L5 := L3.step st5
      have st15 : StepX B (fun a => a = C ∨ a = it ∨ a = D) ρ ρ5 s2 s5 := st13.trans S3 (exX (let ⟨o, e⟩ := hI'; ⟨o, itk3 o e⟩) (let ⟨o, e⟩ := ownD; ⟨o, stD o e⟩) (L3.owned C (.inl rfl))) st5.toX
      cases b with
      | false =>
        simp only [Bool.false_eq_true, if_false]
        exact ⟨items.length + 1 - (i + 1), by omega, i + 1, acc, H5, ρ5, more ++ m5, ys, by rw [hm5, hρ']; simp, rfl, hlt, q5, W.frame hJ' itk5 S5.keep, S5, L5.less hl3, n1', n2', n3', hD.at stD5, st5.monos hV, st15⟩
      | true =>
        simp only [if_true]
        refine q5 A _ s5 ρ5 _ hA S5 L5 fun r r' H6 ρ6 s6 q6 vr S6 st6 => ?_
        obtain ⟨m6, hm6, hm6'⟩ := st6.ext
        have itk6 : ∀ o, h'.get? it = some o → s6.heap.get? it = some o := fun o e => st6.keep it o (itk5 o e) n1' (np i2)
        have stD6 : ∀ o, s'.heap.get? D = some o → s6.heap.get? D = some o := fun o e => st6.keep D o (stD5 o e) n2' (np d2)
        have n1'' : it ∉ ρ6 := fun h => by
          rw [hm6] at h
          rcases List.mem_append.mp h with h | h
          · exact n1' h
          · obtain ⟨o, e⟩ := hI'; have := hm6' it h; rw [itk5 o e] at this; cases this
        have n2'' : D ∉ ρ6 := fun h => by
          rw [hm6] at h
          rcases List.mem_append.mp h with h | h
          · exact n2' h
          · obtain ⟨o, e⟩ := ownD; have := hm6' D h; rw [stD5 o e] at this; cases this
        have n3'' : C ∉ ρ6 := fun h => by
          rw [hm6] at h
          rcases List.mem_append.mp h with h | h
          · exact n3' h
          · obtain ⟨o, e⟩ := L5.owned C (.inl rfl); have := hm6' C h; rw [e] at this; cases this
        have L6 := L5.step st6
        have V6 : VRs ρ6 acc ys.toList := st6.monos (st5.monos hV)
        have hys : ys.size ≤ sizeLine := by
          have h1 := V6.length
          have h2 := (hNeed _ _ _ hI).2
          have h3 : ys.toList.length = ys.size := by simp
          omega
        refine wpAny_list_append_plain (hsz := hys) (hD.at stD6) fun h7 hl7 hs7 => ?_
        have st16 : StepX B (fun a => a = C ∨ a = it ∨ a = D) ρ ρ6 s2 s6 := st15.trans S5 (exX (let ⟨o, e⟩ := hI'; ⟨o, itk5 o e⟩) (let ⟨o, e⟩ := ownD; ⟨o, stD5 o e⟩) (L5.owned C (.inl rfl))) st6.toX
        refine ⟨items.length + 1 - (i + 1), by omega, i + 1, acc ++ [r], H6, ρ6, more ++ m5 ++ m6, ys.push r', by rw [hm6, hm5, hρ']; simp, rfl, hlt, q6, ?_, ?_, ?_, n1'', n2'', n3'', hl7, ?_, ?_⟩
        · exact W.frame hJ' (fun o e => hs7.extBut it o hitd (itk6 o e)) fun a o e nP => hs7.extBut a o (fun q => by subst q; rw [d3] at e; cases e) (S6.keep a o e nP)
        · exact S6.other T (tk := s6.toks) (X := (· = D)) (fun a e => e ▸ ⟨n2'', d3⟩) (fun b o nb e => hs7.extBut b o nb e) S6.toks
        · exact (L6.at fun a o ho e => hs7.extBut a o (fun q => notOwn a (.inr q) ho) e).less hl3
        · rw [Array.toList_push]; exact V6.append (.one vr)
        · exact st16.trans S6 (exX (let ⟨o, e⟩ := hI'; ⟨o, itk6 o e⟩) (let ⟨o, e⟩ := ownD; ⟨o, stD6 o e⟩) (L6.owned C (.inl rfl))) ⟨⟨[], by simp, by simp⟩, fun a o e _ _ nx => hs7.extBut a o (fun q => nx (.inr (.inr q))) e⟩
  exact codeAny_compStart_list (loop _ rfl) (W.self hA.h hJ4 (loop _ rfl))

theorem EW.comp {elt tgt iter : Expr} {ifs : List Expr} {S : Scope} {pos : Pos} {Q : V → List O → Prop} (T : B.There)
    (h : EW B n env loc iter H fun v H1 => CompOk B n env S elt tgt ifs (fun acc H' => Q (.ref H'.length) (H' ++ [.list acc])) v loc H1)
    (hkind : S.kind = .function := by rfl) (hf : freesOk S env = true := by rfl) (hnm : namesOk S = true := by rfl) (hs : ∀ x, foldedSetIterable iter env x = pure x := by intro _; rfl) :
    EW B n env loc (.ListComp elt [⟨tgt, iter, ifs, 0⟩] S pos) H Q := fun A E s ρ QQ hA SS L kk => by
  rw [eval_ListComp]
  have hnames : ∀ x ∈ S.names, x.2 = .local → S.names.lookup x.1 = some .local := fun x hx hl => by
    have := List.all_eq_true.mp hnm x hx
    simp [hl] at this
    exact this
  refine wpAny_comprehension_free (use := none) rfl hs (closOf_is hf) hkind hnames (h A E s ρ _ hA SS L fun v v' H1 ρ1 s1 q vv S1 st1 => ?_)
  obtain ⟨items, Need, I, hIT, hsz, hI0, hNeed, hTurn, hFin⟩ := q
  refine hIT.2 A E s1 ρ1 v' _ hA.h S1 vv fun it J s2 W hJ0 hnew S2 st2 => ?_
  have L1 := L.step st1
  have L2 := L1.step st2
  have nit : it ∉ ρ1 ∧ it ≠ B.P ∧ B.hb.get? it = none ∧ ¬ Own env it := by
    have hP : it ≠ B.P := fun e => by obtain ⟨ob, e'⟩ := S1.tab.there; rw [← e, hnew] at e'; cases e'
    refine ⟨fun h => (by obtain ⟨ob, e⟩ := S1.mem h; rw [hnew] at e; cases e), hP, ?_, fun h => (by obtain ⟨o, e⟩ := L1.owned it h; rw [hnew] at e; cases e)⟩
    cases q : B.hb.get? it with
    | none => rfl
    | some o => rw [S1.keep it o q (np hP)] at hnew; cases hnew
  refine comp_core (RR := fun acc C => compPost B.M A E none QQ acc C) T hA S2 L2 W hJ0 nit hkind hf hnm hsz hI0 hNeed hTurn ?_
  intro D C acc H' ρ' s' m' hI S' st' hns hC1 hC2 hC3 hC4
  refine ⟨m', hns, fun h' hs' => ?_⟩
  have S'' : SB B (ρ' ++ [D]) (H' ++ [.list acc]) { s' with heap := h' } := S'.other T (tk := s'.toks) (X := (· = C)) (fun a e => e ▸ ⟨hC1, hC3⟩) (fun b o nb e => hs'.extBut b o nb e) S'.toks
  have st3 : Step B ρ1 (ρ' ++ [D]) s1 { s' with heap := h' } := by
    obtain ⟨mm, e, hm⟩ := st'.ext
    have back : ∀ a, s2.heap.get? a = none → s1.heap.get? a = none := fun a ha => by
      cases q : s1.heap.get? a with
      | none => rfl
      | some o =>
        by_cases hr : a ∈ ρ1
        · obtain ⟨ob, e⟩ := S2.mem hr; rw [ha] at e; cases e
        · by_cases hP : a = B.P
          · subst hP; obtain ⟨ob, e⟩ := S2.tab.there; rw [ha] at e; cases e
          · rw [st2.keep a o q hr (np hP)] at ha; cases ha
    refine ⟨⟨mm, e, fun a ha => back a (hm a ha)⟩, fun a o e na nP => ?_⟩
    have h2 := st2.keep a o e na nP
    refine hs'.extBut a o (fun q => ?_) (st'.keep a o h2 na nP fun q => ?_)
    · subst q; rw [hC4] at h2; cases h2
    · subst q; rw [hnew] at e; cases e
  have hl : ρ'.length = H'.length := by have := S'.len; simp at this; exact this
  exact kk _ _ _ (ρ' ++ [D]) _ (hFin acc H' hI) ⟨D, by rw [← hl]; simp, rfl⟩ S'' (st1.trans S1 st3)

/-- a comprehension, kept under a name at once -/
theorem ST.assignComp {x : Str} {p : Pos} {elt tgt iter : Expr} {ifs : List Expr} {S : Scope} {pos spos : Pos} {Q : Fl → Loc → List O → Prop} (T : B.There)
    (h : EW B n env loc iter H fun v H1 => CompOk B n env S elt tgt ifs (fun acc H' => Q .next (upd loc x (.ref H'.length)) (H' ++ [.list acc])) v loc H1)
    (hsw : swapsWith (.ListComp elt [⟨tgt, iter, ifs, 0⟩] S pos) (some (.Name x p)) spos.line env = pure true := by rfl) (hk : env.kindOf x = some .local := by rfl)
    (hkind : S.kind = .function := by rfl) (hf : freesOk S env = true := by rfl) (hnm : namesOk S = true := by rfl) (hs : ∀ x, foldedSetIterable iter env x = pure x := by intro _; rfl) :
    FW B n env (exec (.Assign [.Name x p] (.ListComp elt [⟨tgt, iter, ifs, 0⟩] S pos) spos) env) loc H Q := fun A E s ρ QQ hA SS L kk => by
  have hnames : ∀ x ∈ S.names, x.2 = .local → S.names.lookup x.1 = some .local := fun x hx hl => by
    have := List.all_eq_true.mp hnm x hx
    simp [hl] at this
    exact this
  rw [exec_Assign_Name_used _ _ _ _ hsw]
  refine wpAny_bind (wpAny_standAt (wpAny_bind ?_))
  show wpAny _ A (do let _ ← comprehension (.ListComp elt [⟨tgt, iter, ifs, 0⟩] S pos) S env _ (newList []) false (eval iter env) (some (PySem.assign (.Name x p) env))) _ _ s
  refine wpAny_bind (wpAny_mono (wpAny_comprehension_free (use := some (PySem.assign (.Name x p) env)) (Q := fun _ s' => QQ .next s') rfl hs (closOf_is hf) hkind hnames
    (h A E s ρ _ hA SS L fun v v' H1 ρ1 s1 q vv S1 st1 => ?_)) (fun _ s' hq => wpAny_pure (wpAny_pure hq)) fun _ _ e => e)
  obtain ⟨items, Need, I, hIT, hsz, hI0, hNeed, hTurn, hFin⟩ := q
  refine hIT.2 A E s1 ρ1 v' _ hA.h S1 vv fun it J s2 W hJ0 hnew S2 st2 => ?_
  have L1 := L.step st1
  have L2 := L1.step st2
  have nit : it ∉ ρ1 ∧ it ≠ B.P ∧ B.hb.get? it = none ∧ ¬ Own env it := by
    have hP : it ≠ B.P := fun e => by obtain ⟨ob, e'⟩ := S1.tab.there; rw [← e, hnew] at e'; cases e'
    refine ⟨fun h => (by obtain ⟨ob, e⟩ := S1.mem h; rw [hnew] at e; cases e), hP, ?_, fun h => (by obtain ⟨o, e⟩ := L1.owned it h; rw [hnew] at e; cases e)⟩
    cases q : B.hb.get? it with
    | none => rfl
    | some o => rw [S1.keep it o q (np hP)] at hnew; cases hnew
  refine comp_core (RR := fun acc C => compPost B.M A E (some (PySem.assign (.Name x p) env)) (fun _ s' => QQ .next s') acc C) T hA S2 L2 W hJ0 nit hkind hf hnm hsz hI0 hNeed hTurn ?_
  intro D C acc H' ρ' s' m' hI S' st' hns hC1 hC2 hC3 hC4
  have hl : ρ'.length = H'.length := by have := S'.len; simp at this; exact this
  have st3 : Step B ρ1 (ρ' ++ [D]) s1 s' := by
    obtain ⟨mm, e, hm⟩ := st'.ext
    have back : ∀ a, s2.heap.get? a = none → s1.heap.get? a = none := fun a ha => by
      cases q : s1.heap.get? a with
      | none => rfl
      | some o =>
        by_cases hr : a ∈ ρ1
        · obtain ⟨ob, e⟩ := S2.mem hr; rw [ha] at e; cases e
        · by_cases hP : a = B.P
          · subst hP; obtain ⟨ob, e⟩ := S2.tab.there; rw [ha] at e; cases e
          · rw [st2.keep a o q hr (np hP)] at ha; cases ha
    refine ⟨⟨mm, e, fun a ha => back a (hm a ha)⟩, fun a o e na nP => ?_⟩
    have h2 := st2.keep a o e na nP
    exact st'.keep a o h2 na nP fun q => by subst q; rw [hnew] at e; cases e
  have st4 := st1.trans S1 st3
  have L4 := L.step st4
  have nCO : ¬ Own env C := fun hO => by obtain ⟨o, e⟩ := L2.owned C hO; rw [hC4] at e; cases e
  show wpAny _ A (PySem.assign (.Name x p) env (.ref D)) _ _ _
  refine wpAny_assign_Name (wpAny_storeL (v := .ref H'.length) T S' L4 ⟨D, by rw [← hl]; simp, rfl⟩ hk fun s5 S5 L5 st5 => ?_)
  have hLC : C ≠ env.locals := fun q => nCO (.inl q)
  refine ⟨m', hns.at' fun o e => st5.keep C o e hC1 (np hC2) hLC, fun h6 hs6 => ?_⟩
  have S6 : SB B (ρ' ++ [D]) (H' ++ [.list acc]) { s5 with heap := h6 } := S5.other T (tk := s5.toks) (X := (· = C)) (fun a e => e ▸ ⟨hC1, hC3⟩) (fun b o nb e => hs6.extBut b o nb e) S5.toks
  have L6 : LocR B env (upd loc x (.ref H'.length)) (ρ' ++ [D]) h6 := L5.at fun a o ho e => hs6.extBut a o (fun q => nCO (q ▸ ho)) e
  refine kk .next _ _ _ (ρ' ++ [D]) _ (hFin acc H' hI) rfl S6 L6 ?_
  have st7 : StepX B (Own env) ρ (ρ' ++ [D]) s s5 := st4.toX.trans S' L4.owned (st5.wide fun a e => Or.inl e)
  refine ⟨st7.ext, fun a o e na nP nO => ?_⟩
  refine hs6.extBut a o (fun q => ?_) (st7.keep a o e na nP nO)
  subst q
  have h1 := st1.keep a o e na nP
  have na1 : a ∉ ρ1 := fun h => by
    obtain ⟨m1, hm1, hm1'⟩ := st1.ext
    rw [hm1] at h
    rcases List.mem_append.mp h with h | h
    · exact na h
    · rw [hm1' a h] at e; cases e
  rw [st2.keep a o h1 na1 nP] at hC4; cases hC4

end
end Mine

end
section
open PySem PySem.W PySem.Calls PyProof.Rows
set_option maxRecDepth 100000
namespace Mine

/-! the search for an unsafe sign -/
def reCode : Array Nat := #[14, 17, 4, 1, 1, 21, 9, 0, 604043296, 1, 0, 0, 0, 0, 0, 8, 4, 0, 13, 14, 21, 9, 0, 604043296, 1, 0, 0, 0, 0, 0, 8, 4, 0, 1]

/-- the signs that quote leaves bare -/
def safeCp (c : Nat) : Bool := (c < 256 && (reCode.getD (5 + 1 + (1 + c / 32)) 0).testBit (c % 32)) || Sre.isWord c

theorem inSet_end (c : Nat) (seen : Sre.Seen) (b : Bool) (s1 s2 s3 : Sre.Seen) : ∃ seen', (if b = true then Except.ok (!true, s1)
    else do
      let y ← Except.ok (Sre.isWord c != false)
      if y = true then pure (!true, s2) else Except.ok (!!true, s3)) = (Except.ok (!(b || Sre.isWord c), seen') : Except String (Bool × Sre.Seen)) := by
  cases b
  · cases hw : Sre.isWord c
    · exact ⟨s3, rfl⟩
    · exact ⟨s2, rfl⟩
  · exact ⟨s1, rfl⟩

theorem inSet_5 (c : Nat) (seen : Sre.Seen) : ∃ seen', Sre.inSet reCode c 34 5 true seen = .ok (!safeCp c, seen') := by
  unfold Sre.inSet
  dsimp only
  rw [show Sre.ops[reCode.getD (5+0) 0]? = some .NEGATE from rfl]
  dsimp only
  unfold Sre.inSet
  dsimp only
  rw [show Sre.ops[reCode.getD (5+1+0) 0]? = some .CHARSET from rfl]
  dsimp only
  unfold Sre.inSet
  dsimp only
  rw [show Sre.ops[reCode.getD (5+1+9+0) 0]? = some .CATEGORY from rfl]
  dsimp only
  rw [show reCode.getD (5+1+9+1) 0 = 4 from rfl]
  rw [show Sre.category 4 c = .ok (Sre.isWord c != false) from rfl]
  unfold Sre.inSet
  dsimp only
  rw [show Sre.ops[reCode.getD (5+1+9+2+0) 0]? = some .FAILURE from rfl]
  dsimp only
  exact inSet_end c seen _ _ _ _

theorem words_same (k : Nat) (h : k < 8) : reCode.getD (20 + 1 + (1 + k)) 0 = reCode.getD (5 + 1 + (1 + k)) 0 := by
  match k, h with
  | 0, _ | 1, _ | 2, _ | 3, _ | 4, _ | 5, _ | 6, _ | 7, _ => rfl
  | k + 8, h => omega

theorem inSet_20 (c : Nat) (seen : Sre.Seen) : ∃ seen', Sre.inSet reCode c 34 20 true seen = .ok (!safeCp c, seen') := by
  unfold Sre.inSet
  dsimp only
  rw [show Sre.ops[reCode.getD (20+0) 0]? = some .NEGATE from rfl]
  dsimp only
  unfold Sre.inSet
  dsimp only
  rw [show Sre.ops[reCode.getD (20+1+0) 0]? = some .CHARSET from rfl]
  dsimp only
  unfold Sre.inSet
  dsimp only
  rw [show Sre.ops[reCode.getD (20+1+9+0) 0]? = some .CATEGORY from rfl]
  dsimp only
  rw [show reCode.getD (20+1+9+1) 0 = 4 from rfl]
  rw [show Sre.category 4 c = .ok (Sre.isWord c != false) from rfl]
  unfold Sre.inSet
  dsimp only
  rw [show Sre.ops[reCode.getD (20+1+9+2+0) 0]? = some .FAILURE from rfl]
  dsimp only
  have hb : (decide (c < 256) && (reCode.getD (20 + 1 + (1 + c / 32)) 0).testBit (c % 32)) = (decide (c < 256) && (reCode.getD (5 + 1 + (1 + c / 32)) 0).testBit (c % 32)) := by
    by_cases h : c < 256
    · rw [words_same (c / 32) (by omega)]
    · simp [h]
  rw [hb]
  exact inSet_end c seen _ _ _ _

def m0 (text : Array Nat) (lim : Nat) : Sre.M :=
  { code := reCode, text, lim, start := 0, lastStart := lim, pc := 18, pos := 0, handed := 0, marks := #[], mustAdvance := false, seen := ({} : Sre.Seen).add 14 }

theorem forSearch_is (text : Array Nat) (lim : Nat) : Sre.forSearch reCode text 0 0 lim false = if (decide (0 > lim) || decide (lim - 0 < 1)) = true then { m0 text lim with lastStart := 0 }.say false else (m0 text lim).attemptFrom 0 true := by
  rfl

theorem admitted_is (m : Sre.M) (hc : m.code = reCode) : ∀ fuel s seen, ∃ r seen', Sre.M.admitted m fuel s seen = .ok (r, seen') ∧
    match r with
    | some k => s ≤ k ∧ k < m.lim ∧ safeCp (m.text.getD k 0) = false
    | none => ∀ k, s ≤ k → k < m.lim → k < s + fuel → safeCp (m.text.getD k 0) = true
  | 0, s, seen => ⟨none, seen, rfl, fun k h1 h2 h3 => by omega⟩
  | fuel + 1, s, seen => by
    unfold Sre.M.admitted
    by_cases h : s ≥ m.lim
    · rw [if_pos h]; exact ⟨none, seen, rfl, fun k h1 h2 h3 => by omega⟩
    · rw [if_neg h, hc]
      obtain ⟨seen', e⟩ := inSet_5 (m.text.getD s 0) seen
      rw [show reCode.size = 34 from rfl, e]
      cases hs : safeCp (m.text.getD s 0) with
      | false => exact ⟨some s, seen', rfl, Nat.le_refl _, by omega, hs⟩
      | true =>
        obtain ⟨r, seen2, e2, hr⟩ := admitted_is m hc fuel (s + 1) seen'
        refine ⟨r, seen2, e2, ?_⟩
        cases r with
        | some k => exact ⟨by have := hr.1; omega, hr.2⟩
        | none =>
          intro k h1 h2 h3
          by_cases hk : k = s
          · subst hk; exact hs
          · exact hr k (by omega) h2 (by omega)

/-- is there a sign that has to be quoted? -/
def unsafe? (x : Str) : Bool := x.cps.toList.any fun c => !safeCp c

theorem accepts_18 (c : Nat) (seen : Sre.Seen) : ∃ seen', Sre.accepts reCode 18 c seen = .ok (!safeCp c, seen') := inSet_20 c seen

theorem search_run (x : Str) (hx : 0 < x.cps.size) : ∃ m' : Sre.M, (Sre.forSearch reCode x.cps 0 0 x.cps.size false).runFor 4 = m' ∧ m'.outcome = some (if unsafe? x then .matched else .failed) := by
  rw [forSearch_is]
  rw [if_neg (by simp only [Bool.or_eq_true, decide_eq_true_eq]; omega)]
  have hadm := admitted_is (m0 x.cps x.cps.size) rfl (x.cps.size + 1 - 0) 0 (m0 x.cps x.cps.size).seen
  obtain ⟨r, seen', e, hr⟩ := hadm
  have hat : (m0 x.cps x.cps.size).attemptFrom 0 true = match Sre.M.admitted (m0 x.cps x.cps.size) (x.cps.size + 1 - 0) 0 (m0 x.cps x.cps.size).seen with
    | .ok (some s, seen) => { m0 x.cps x.cps.size with mustAdvance := false, seen }.attemptAt s true
    | .ok (none, seen) => { m0 x.cps x.cps.size with seen }.say false
    | .error why => (m0 x.cps x.cps.size).stick why := rfl
  rw [hat, e]
  cases r with
  | none =>
    refine ⟨_, rfl, ?_⟩
    have hu : unsafe? x = false := by
      unfold unsafe?
      rw [List.any_eq_false]
      intro c hc
      obtain ⟨k, hk, rfl⟩ := List.getElem_of_mem hc
      have hk' : k < x.cps.size := by simpa using hk
      have := hr k (Nat.zero_le _) hk' (by omega)
      simp only [m0] at this
      rw [Array.getD, dif_pos hk'] at this
      simpa using this
    rw [hu]
    rfl
  | some k =>
    obtain ⟨_, hk, hs⟩ := hr
    have hk' : k < x.cps.size := hk
    have hu : unsafe? x = true := by
      unfold unsafe?
      rw [List.any_eq_true]
      simp only [m0] at hs
      rw [Array.getD, dif_pos hk'] at hs
      exact ⟨x.cps[k], by simp, by simpa using hs⟩
    rw [hu]
    refine ⟨_, rfl, ?_⟩
    obtain ⟨seen2, e2⟩ := accepts_18 (x.cps.getD k 0) (seen'.add 13)
    rw [show safeCp (x.cps.getD k 0) = false from hs] at e2
    have h1 : (({ m0 x.cps x.cps.size with mustAdvance := false, seen := seen' } : Sre.M).attemptAt k true).step =
        { (({ m0 x.cps x.cps.size with mustAdvance := false, seen := seen' } : Sre.M).attemptAt k true) with seen := seen2, pc := 33, pos := k + 1 } := by
      have : (({ m0 x.cps x.cps.size with mustAdvance := false, seen := seen' } : Sre.M).attemptAt k true).step = (if k ≥ x.cps.size then ({ (({ m0 x.cps x.cps.size with mustAdvance := false, seen := seen' } : Sre.M).attemptAt k true) with seen := seen'.add 13 } : Sre.M).say false else
          match Sre.accepts reCode 18 (x.cps.getD k 0) (seen'.add 13) with
          | .error why => ({ (({ m0 x.cps x.cps.size with mustAdvance := false, seen := seen' } : Sre.M).attemptAt k true) with seen := seen'.add 13 } : Sre.M).stick why
          | .ok (false, seen) => ({ (({ m0 x.cps x.cps.size with mustAdvance := false, seen := seen' } : Sre.M).attemptAt k true) with seen } : Sre.M).say false
          | .ok (true, seen) => { (({ m0 x.cps x.cps.size with mustAdvance := false, seen := seen' } : Sre.M).attemptAt k true) with seen, pc := 33, pos := k + 1 }) := rfl
      rw [this, if_neg (by omega), e2]
      rfl
    have h4 : ∀ m : Sre.M, m.outcome = none → m.runFor 4 = m.step.runFor 3 := fun m hm => by
      show (if m.outcome.isSome then m else m.step.runFor 3) = _
      rw [hm]; rfl
    show (Sre.M.runFor 4 (({ m0 x.cps x.cps.size with mustAdvance := false, seen := seen' } : Sre.M).attemptAt k true)).outcome = _
    rw [h4 _ rfl, h1]
    rfl

end Mine

end
section
open PySem PySem.W PySem.Calls PyProof.Rows
set_option maxRecDepth 100000
namespace Mine
open PySem.Builtin PySem.Builtin.Re

theorem entry_search : entryFor table "re.Pattern.search" = some Builtin.«re.Pattern.search» := entryFor_of_tree (by kernel_rfl)
theorem sub_module : isSubtype (.type "re.Pattern") (.type "module") = pure false := by rw [isSubtype_type]; kernel_rfl
theorem check_args (a b : Value) : ∃ sig, Manifest.signature? "re.Pattern.search" = some sig ∧ Bind.checkArgs "re.Pattern.search" { sig with full := s!"{Bind.lastOf "re.Pattern"}.{Bind.lastOf "re.Pattern.search"}" } ⟨[a, b], []⟩ = pure () := by
  refine ⟨_, (by kernel_rfl : Manifest.signature? "re.Pattern.search" = some ((Manifest.signature? "re.Pattern.search").get (by decide +kernel))), ?_⟩
  kernel_rfl

theorem check_search {prog : Program} {w : World} {A : Around} {E : Value → Shared → Prop} {s : Shared} {p : Addr} {x : Str} {t : Tok} {op : Obj} {fs : Array Value} {Q : Unit → Shared → Prop} (hp : s.heap.get? p = some op) (hc : op.cls = .type "re.Pattern") (hd : op.data = .fields fs)
    (q : Q () s) : wpAny (model prog w) A (checkBoundCall "re.Pattern.search" ⟨[.ref p, .str x t], []⟩) Q E s := by
  obtain ⟨sig, hsig, hca⟩ := check_args (.ref p) (.str x t)
  have hk : builtinKind "re.Pattern.search" = some .method := by decide +kernel
  have hv : Manifest.varargsMethods.contains "re.Pattern.search" = false := by decide +kernel
  unfold checkBoundCall
  rw [hsig, hk]
  refine wpAny_bind (m := isInstance (.ref p) (.type "module")) (wpAny_isInstance (T := "re.Pattern") ⟨op, hp, hc⟩ sub_module ?_)
  rw [hv]
  show wpAny _ A (isType (.ref p) >>= _) Q E s
  refine wpAny_bind ?_
  show wpAny _ A (loadPart p (some headPart) >>= fun o => pure (match o.data with | .cls _ => true | _ => false)) _ _ s
  refine wpAny_bind (wpAny_loadPart' hp ?_)
  rw [hd]
  refine wpAny_pure ?_
  show wpAny _ A (typeOf (.ref p) >>= _) _ _ s
  refine wpAny_bind (wpAny_typeOf (T := "re.Pattern") ⟨_, hp, hc⟩ ?_)
  exact wpAny_of_eq hca q

theorem named_search (v : Value) : reNamed "re.Pattern.search" "search" ["string", "pos", "endpos"] 1 [v] [] = pure [some v, none, none] := by kernel_rfl

/-- the bound method: its pattern, and the words of its code -/
structure ReAt (h : Heap) (f p cd : Addr) : Prop where
  f : ∃ o, h.get? f = some o ∧ o.cls = .type "builtin_function_or_method" ∧ o.data = .fields #[.builtin "re.Pattern.search", .ref p]
  p : ∃ o fs, h.get? p = some o ∧ o.cls = .type "re.Pattern" ∧ o.data = .fields fs ∧ reRawNat (fs.getD 2 .none) = 0 ∧ fs.getD 5 .none = .ref cd ∧ reRawNat (fs.getD 6 .none) = 0
  c : ∃ o items n, h.get? cd = some o ∧ o.data = .seq items n ∧ (items.map reRawOf).map (·.toNat) = reCode

section
variable {prog : Program} {w : World} {A : Around} {E : Value → Shared → Prop} {s : Shared}

theorem target_search {f p cd : Addr} {x : Str} {t : Tok} {Q : ReTarget → Shared → Prop} (R : ReAt s.heap f p cd) (q : Q { pattern := .ref p, string := .str x t, code := reCode, text := x.cps, kind := 0, groups := 0, pos := 0, lim := x.cps.size } s) (hx : x.cps.size < 2 ^ 63) :
    wpAny (model prog w) A (reTarget "re.Pattern.search" "search" ⟨[.ref p, .str x t], []⟩) Q E s := by
  obtain ⟨op, fs, hp, hpc, hpd, h2, h5, h6⟩ := R.p
  obtain ⟨oc, items, n, hc, hcd, hcode⟩ := R.c
  show wpAny _ A (reNamed "re.Pattern.search" "search" ["string", "pos", "endpos"] 1 [.str x t] [] >>= _) Q E s
  rw [named_search]
  refine wpAny_bind (wpAny_pure ?_)
  refine wpAny_bind (wpAny_pure ?_)
  refine wpAny_bind (wpAny_pure ?_)
  refine wpAny_bind (wpAny_fieldsOf hp hpd ?_)
  refine wpAny_bind (wpAny_pure (a := (x.cps, 0)) ?_)
  rw [h6, h5, h2]
  show wpAny _ A (reNoCollectionInside (.str x t) 0 >>= _) _ _ s
  refine wpAny_bind (wpAny_pure ?_)
  refine wpAny_bind (m := reRawItems (.ref cd)) (wpAny_bind (wpAny_seqItems hc hcd (wpAny_pure ?_)))
  refine wpAny_pure ?_
  have e1 : min (0 : Int).toNat x.cps.size = 0 := by simp
  have e2 : min (2 ^ 63 - 1 : Int).toNat x.cps.size = x.cps.size := by
    have : (2 ^ 63 - 1 : Int).toNat = 9223372036854775807 := by decide
    rw [this]; omega
  show Q { pattern := .ref p, string := .str x t, code := (items.map reRawOf).map (·.toNat), text := x.cps, kind := 0, groups := 0, pos := min (0 : Int).toNat x.cps.size, lim := min (2 ^ 63 - 1 : Int).toNat x.cps.size } s
  rw [hcode, e1, e2]
  exact q

theorem drive_search (x : Str) (hx : 0 < x.cps.size) : ∃ m' : Sre.M, reDrive (2 ^ 64) (Sre.forSearch reCode x.cps 0 0 x.cps.size false) = pure m' ∧ m'.outcome = some (if unsafe? x then .matched else .failed) := by
  obtain ⟨m', e, ho⟩ := search_run x hx
  refine ⟨m', ?_, ho⟩
  show reDrive (18446744073709551615 + 1) _ = _
  show (if ((Sre.forSearch reCode x.cps 0 0 x.cps.size false).runFor 4).outcome.isSome then pure ((Sre.forSearch reCode x.cps 0 0 x.cps.size false).runFor 4) else _) = _
  rw [e, ho]; rfl

theorem end_search (x : Str) (hx : 0 < x.cps.size) {Q : Option Sre.M → Shared → Prop} (q : (unsafe? x = true → ∀ m, Q (some m) s) ∧ (unsafe? x = false → Q none s)) :
    wpAny (model prog w) A (reRunToEnd (Sre.forSearch reCode x.cps 0 0 x.cps.size false)) Q E s := by
  obtain ⟨m', e, ho⟩ := drive_search x hx
  unfold reRunToEnd
  rw [e]
  refine wpAny_bind (wpAny_pure ?_)
  refine wpAny_bind (wpAny_forIn_list _ (fun _ _ s' => s' = s) (fun _ s' => s' = s ∧ True) (fun i rest b s' hs => ?_) (fun b s' hs => ⟨hs, trivial⟩) _ _ rfl |> fun h => wpAny_mono h (fun _ s' hs => ?_) fun _ _ e => e)
  · obtain ⟨rfl, _⟩ := hs
    rw [ho]
    cases hu : unsafe? x with
    | true => exact wpAny_pure (q.1 hu m')
    | false => exact wpAny_pure (q.2 hu)
  · subst hs
    by_cases hh : m'.seen.has i = true
    · simp only [hh, if_true]
      exact wpAny_bind (wpAny_rule (wpAny_pure rfl))
    · simp only [hh, if_false, Bool.false_eq_true]
      exact wpAny_pure rfl

theorem match_search {p : Addr} {x : Str} {t : Tok} {m : Sre.M} {Q : Value → Shared → Prop} (q : ∀ a h', s.heap.get? a = none → (∀ b o, s.heap.get? b = some o → h'.get? b = some o) → Q (.ref a) { s with heap := h' }) :
    wpAny (model prog w) A (reNewMatch (.ref p) (.str x t) 0 0 x.cps.size m) Q E s := by
  show wpAny _ A (newTuple [rawInt m.start, rawInt m.handed] >>= fun tup => newFields "re.Match" [.str x t, .ref p, rawInt 0, rawInt x.cps.size, rawInt m.lastindex, tup]) Q E s
  refine wpAny_bind (m := newTuple _) (wpAny_newObj_type ?_ (by size_fits))
  refine wpAny_newObj_type (q _ _ (Heap.get?_none_of_le (by simp)) fun b o e => Heap.get?_push_of_some _ (Heap.get?_push_of_some _ e)) (by size_fits)
end

/-- _find_unsafe -/
theorem CW.search {B : Wd} {n : Nat} {H : List O} {Q : V → List O → Prop} {f p cd : Addr} {x : Str} (R : ReAt B.hb f p cd) (hf : f ≠ B.P) (hp : p ≠ B.P) (hcd : cd ≠ B.P) (hx : 0 < x.cps.size) (hsz : x.cps.size < 2 ^ 63)
    (q : (unsafe? x = true → ∀ a, Q (.ext a) H) ∧ (unsafe? x = false → Q .none H)) : CW B n (.ref f) [.str x] H Q := fun A E s ρ vs' QQ hA S hv kk => by
  obtain _ | ⟨⟨t, rfl⟩, _ | _⟩ := hv
  have R' : ReAt s.heap f p cd := by
    obtain ⟨⟨o, e, r⟩, ⟨o2, fs, e2, r2⟩, ⟨o3, it, m, e3, r3⟩⟩ := R
    exact ⟨⟨o, S.keep _ _ e (np hf), r⟩, ⟨o2, fs, S.keep _ _ e2 (np hp), r2⟩, ⟨o3, it, m, S.keep _ _ e3 (np hcd), r3⟩⟩
  obtain ⟨o, ho, hoc, hod⟩ := R'.f
  obtain ⟨op, fs, hpp, hpc, hpd, _⟩ := R'.p
  refine wpAny_call (codeAny_of_tree ?_)
  show wpAny _ _ (callAny (.ref f) ⟨[.str x t], []⟩) _ _ s
  simp only [callAny]
  refine wpAny_bind (wpAny_load ho ?_)
  rw [hod, hoc]
  show wpAny _ _ (checkBoundCall "re.Pattern.search" ⟨[.ref p, .str x t], []⟩ >>= fun _ => again (.builtin "re.Pattern.search" ⟨[.ref p, .str x t], []⟩)) _ _ s
  refine wpAny_bind (check_search hpp hpc hpd (wpAny_pure ⟨(by kernel_rfl), ?_⟩))
  refine codeAny_builtin entry_search ?_
  show wpAny _ _ (reTarget "re.Pattern.search" "search" ⟨[.ref p, .str x t], []⟩ >>= fun t => reAnswer t (Sre.forSearch t.code t.text t.groups t.pos t.lim false)) _ _ s
  refine wpAny_bind (target_search R' ?_ hsz)
  unfold reAnswer
  refine wpAny_bind (end_search x hx ⟨fun hu m => ?_, fun hu => ?_⟩)
  · refine wpAny_bind (match_search fun a h' hn hk => wpAny_pure ?_)
    exact kk (.ext a) _ H ρ _ (q.1 hu a) rfl (S.keeps (tk := s.toks) hk S.toks) (Step.keeps (tk := s.toks) hk)
  · exact wpAny_pure (kk .none _ H ρ s (q.2 hu) rfl S Step.refl)

end Mine

end
section
open PySem PySem.W PySem.Calls PyProof.Rows
set_option maxRecDepth 100000
namespace Mine

def fnNth : List Stmt → Nat → List Stmt × Scope
  | [], _ => ([], { kind := .function, names := [], isGenerator := false, isCoroutine := false })
  | .FunctionDef _ _ body _ _ _ scope _ _ _ :: r, 0 => (body, scope)
  | .FunctionDef .. :: r, k + 1 => fnNth r k
  | _ :: r, k => fnNth r k

abbrev Wd.tick (B : Wd) : Wd := { B with t0 := 1 }

section
variable {B : Wd}
theorem SB.tick {ρ H s} (S : SB B ρ H s) (h : 1 ≤ s.toks) : SB B.tick ρ H s := ⟨S.keep, S.fresh, S.len, S.nodup, fun k o a e e' => by have := S.objs k o a e e'; cases o <;> exact this, S.tab, S.gens, S.os, h⟩
theorem SB.untick {ρ H s} (S : SB B.tick ρ H s) (h : B.t0 ≤ 1) : SB B ρ H s := ⟨S.keep, S.fresh, S.len, S.nodup, fun k o a e e' => by have := S.objs k o a e e'; cases o <;> exact this, S.tab, S.gens, S.os, Nat.le_trans h S.toks⟩
theorem Fn.tick {f names body S} (F : Fn B f names body S) : Fn B.tick f names body S := ⟨F.ex, F.p⟩

variable {n : Nat} {H : List O} {Q : V → List O → Prop}
/-- a def with a parameter: its frame's first store takes a token -/
theorem CW.def1 {f : Addr} {name : Str} {names : List Str} {body : List Stmt} {S : Scope} {v0 : V} {vs : List V} (W : B.Ok) (T : B.There) (ht0 : B.t0 ≤ 1) (F : Fn B f (name :: names) body S) (hlen : vs.length = names.length)
    (h : ∀ q cd L, FW B.tick n (fenv S q f cd L) (execs body (fenv S q f cd L)) (locOf (name :: names) (v0 :: vs)) H fun fl _ H' => ∃ v, fl = .ret v ∧ H' = H ∧ v.Closed H.length ∧ Q v H)
    (hk : ((name :: names).all fun x => S.names.lookup x == some .local) = true := by decide) (hnc : (S.names.all fun x => x.2 != .cell) = true := by decide) (hn : (name :: names).Nodup := by decide) (hkind : S.kind = .function := by rfl) (hco : S.isCoroutine = false := by rfl) (hgen : S.isGenerator = false := by rfl) :
    CW B (n + 1) (.ref f) (v0 :: vs) H Q := fun A E s ρ vs' QQ hA SS hv kk => by
  obtain ⟨⟨o, fd, ho, hd, hS, hbody, hclo, hglob, hbu, ⟨c, oc, cvs, t, hc1, hc2, hc3, hc4, hc5⟩, hbind⟩, hfP⟩ := F
  subst hS
  have hcell : ∀ x ∈ fd.scope.names, x.2 ≠ .cell := fun x hx => by simpa using List.all_eq_true.mp hnc x hx
  have hcf : ∀ (k : Nat) (l : List (Str × NameKind)) (acc), (∀ x ∈ l, x.2 ≠ NameKind.cell) → cellsFrom k l acc = acc := fun k l => by
    induction l generalizing k with
    | nil => intro acc _; rfl
    | cons y r ih =>
      intro acc hy
      unfold cellsFrom
      rw [if_neg (by have := hy y (.head _); simpa using this)]
      exact ih _ _ fun x hx => hy x (.tail _ hx)
  refine wpAny_call ?_
  refine codeAny_call_function hA.room (SS.keep _ _ ho (np hfP)) hd hco hgen hbody ⟨c, oc, cvs, t, hc1, SS.keep _ _ hc3 (np hc2), hc4, hc5⟩ ?_
  have hl' : vs'.length = (name :: names).length := by rw [← hv.length]; simp [hlen]
  rw [hbind vs' hl', hclo]
  have hloc : ∀ x ∈ (name :: names).zip vs', fd.scope.names.lookup x.1 = some .local := fun x hx => by
    have := List.all_eq_true.mp hk x.1 (List.of_mem_zip hx).1
    simpa using this
  refine wpAny_pure (wpAny_newFunctionEnv hcell hloc (fun h' hns hsb => ?_) hkind)
  have old : ∀ b o, s.heap.get? b = some o → h'.get? b = some o := fun b o e => hsb.extBut b o (Nat.ne_of_lt (Heap.lt_size e)) (Heap.get?_push_of_some _ e)
  have he' : newEnv fd.scope s.heap.objs.size fd.globals [] (fd.qualname ++ ".<locals>.") (some f) fd.code none fd.builtins = fenv fd.scope (fd.qualname ++ ".<locals>.") f fd.code s.heap.objs.size := by
    rw [hglob, hbu]; unfold fenv; rw [hcf _ _ _ hcell]; rfl
  rw [he']
  refine ⟨W.nolimit.at fun o e => old _ _ (SS.keep _ _ e (np W.ps)), codeAny_func ?_⟩
  have fresh : ∀ a, s.heap.objs.size ≤ a → s.heap.get? a = none := fun a ha => Heap.get?_none_of_le ha
  have notin : ∀ a, s.heap.get? a = none → a ∉ ρ ∧ a ≠ B.P ∧ B.hb.get? a = none := fun a ha => by
    have hP : a ≠ B.P := fun e => by obtain ⟨ob, e'⟩ := SS.tab.there; rw [← e, ha] at e'; cases e'
    refine ⟨fun h => (by obtain ⟨ob, e⟩ := SS.mem h; rw [ha] at e; cases e), hP, ?_⟩
    cases q : B.hb.get? a with
    | none => rfl
    | some o => rw [SS.keep a o q (np hP)] at ha; cases ha
  have hz : 1 ≤ s.toks + ((name :: names).zip vs').length := by
    have : ((name :: names).zip vs').length = names.length + 1 := by simp [List.length_zip, hl']
    omega
  have S' : SB B.tick ρ H { s with heap := h', toks := s.toks + ((name :: names).zip vs').length } := (SS.keeps old (Nat.le_trans SS.toks (Nat.le_add_right _ _))).tick hz
  have L' : LocR B.tick (fenv fd.scope (fd.qualname ++ ".<locals>.") f fd.code s.heap.objs.size) (locOf (name :: names) (v0 :: vs)) ρ h' := by
    obtain ⟨n1, n2, n3⟩ := notin _ (fresh _ (Nat.le_refl _))
    have hnoc : ∀ y c, (fenv fd.scope (fd.qualname ++ ".<locals>.") f fd.code s.heap.objs.size).cells.lookup y = some c → False := fun y c e => by
      unfold fenv at e; dsimp only at e; rw [hcf _ _ _ hcell] at e; cases e
    refine ⟨hkind, rfl, rfl, n1, n2, n3, fun y c e => (hnoc y c e).elim, fun y z c e _ => (hnoc y c e).elim, _, hns, fun y v e => .inl ?_⟩
    obtain ⟨v', hm, r⟩ := zip_lookup hv e
    have := List.all_eq_true.mp hk y (List.of_mem_zip hm).1
    refine ⟨by show fd.scope.names.lookup y = _; simpa using this, v', ?_, r⟩
    have hnd : (((name :: names).zip vs').map (·.1)).Nodup := by
      have : ((name :: names).zip vs').map (·.1) = name :: names := by
        rw [List.map_fst_zip]; rw [hl']; exact Nat.le_refl _
      rw [this]; exact hn
    have key : ∀ (l : List (Str × Value)), (l.map (·.1)).Nodup → (y, v') ∈ l → l.lookup y = some v' := fun l => by
      induction l with
      | nil => intro _ h; cases h
      | cons z r ih =>
        intro hn hm
        simp only [List.map_cons, List.nodup_cons] at hn
        rw [List.lookup_cons]
        rcases List.mem_cons.mp hm with q | q
        · subst q; simp
        · have : (y == z.1) = false := by
            simp only [beq_eq_false_iff_ne, ne_eq]
            rintro rfl
            exact hn.1 (List.mem_map.mpr ⟨_, q, rfl⟩)
          rw [this]; exact ih hn.2 q
    refine key _ ?_ (List.mem_reverse.mpr hm)
    rw [List.map_reverse]
    exact (List.reverse_perm _).nodup_iff.mpr hnd
  refine h _ _ _ _ _ _ ρ _ (hA.deeper) S' L' fun fl fl' loc' H' ρ' s'' q r S'' L'' st'' => ?_
  obtain ⟨v, rfl, rfl, hvc, q⟩ := q
  obtain ⟨v', rfl, hvv⟩ := r
  obtain ⟨⟨m, e, hm⟩, k⟩ := id st''
  have hml : m = [] := by
    have h1 := S''.len
    have h2 := SS.len
    rw [e, List.length_append] at h1
    exact List.length_eq_zero_iff.mp (by omega)
  subst hml
  rw [List.append_nil] at e
  subst e
  refine kk v _ H' _ s'' q hvv (S''.untick ht0) ⟨⟨[], by simp, by simp⟩, fun a o e na nP => ?_⟩
  refine k a o (old a o e) na nP ?_
  rintro (rfl | ⟨y, hc⟩)
  · have := fresh _ (Nat.le_refl s.heap.objs.size); rw [show (fenv fd.scope (fd.qualname ++ ".<locals>.") f fd.code s.heap.objs.size).locals = s.heap.objs.size from rfl, this] at e; cases e
  · unfold fenv at hc; dsimp only at hc; rw [hcf _ _ _ hcell] at hc; cases hc
end
end Mine

end
section
open PySem PySem.W PySem.Calls PyProof.Rows
set_option maxRecDepth 100000
namespace Mine

section
variable {B : Wd} {n : Nat} {env : Env} {loc : Loc} {H : List O} {Q : V → List O → Prop}

/-- the world, once more: another base, under which nothing grows -/
abbrev Wd.still (B : Wd) (h : Heap) (o : OsState) (g : Array GenState → Drawn → Prop) : Wd := { B with hb := h, os := o, gr := false, t0 := 0, gk := g }

theorem Wd.Tab.but {X : Addr → Prop} {h h' : Heap} (x : B.Tab h) (hk : ∀ b o, ¬ X b → h.get? b = some o → h'.get? b = some o) (n1 : ¬ X B.c) (n2 : ¬ X B.P) : B.Tab h' := by
  obtain ⟨ps, x, y⟩ := x
  refine ⟨ps, ?_, ?_⟩
  · obtain ⟨o, vs, file, tf, flags, tg, inF, text, tt, op, a, r1, r2, r3, r4, r5, r6, b, r⟩ := x
    exact ⟨o, vs, file, tf, flags, tg, inF, text, tt, op, hk _ _ n1 a, r1, r2, r3, r4, r5, r6, hk _ _ n2 b, r⟩
  · obtain ⟨⟨o, vs, a, r⟩, t⟩ := y
    exact ⟨⟨o, vs, hk _ _ n1 a, r⟩, hk _ _ n2 t⟩

theorem SB.remake {ρ : List Addr} {s s' : Shared} (S : SB B ρ H s) (T : B.There) (hgr : B.gr = true) (hk : ∀ b o, b ≠ B.P → s.heap.get? b = some o → s'.heap.get? b = some o) (tab : B.Tab s'.heap) (hg : B.gk s'.gens s'.drawn) (ho : s'.os = s.os) (ht : B.t0 ≤ s'.toks) :
    SB B ρ H s' ∧ Step B ρ ρ s s' := by
  have hP := S.notP T.P
  refine ⟨⟨fun a o e n => hk a o (n hgr) (S.keep a o e n), S.fresh, S.len, S.nodup, fun k o a e e' => ?_, tab, hg, ho.trans S.os, ht⟩, ⟨[], by simp, by simp⟩, fun a o e _ nP => hk a o (nP hgr) e⟩
  have := (S.objs k o a e e').at (more := []) (h' := s'.heap) fun ob e => hk _ _ (fun q => hP (q ▸ List.mem_of_getElem? e')) e
  simpa using this

/-- sep.join(f(x) for x in y) -/
theorem EW.joinGen {sep qn x y : Str} {fq : Addr} {F : Str → Str} {xs : List Str} {vs : List V} {k m : Nat} {S : Scope} {kc : Nat} {p0 apos pos qpos xpos cpos tpos ypos gpos : Pos} (W : B.Ok) (T : B.There) (hgr : B.gr = true) (hgk : B.gk = fun g _ => AllBare g) (hc : env.code = .ref B.c)
    (hq : B.mg qn = some (.ref fq)) (hF : Callee B (.ref fq))
    (hcall : ∀ (h : Heap) (os : OsState) (g : Array GenState → Drawn → Prop), (∀ a o, B.hb.get? a = some o → a ≠ B.P → h.get? a = some o) → (∃ o, h.get? B.P = some o) → ∀ z ∈ xs, CW (B.still h os g) m (.ref fq) [.str z] [] fun v H' => v = .str (F z) ∧ H' = [])
    (hmn : m + 1 ≤ n) (hy : loc y = some (.ref k)) (hk : H[k]? = some (.list vs)) (hx : strsOf vs = some xs) (hlen : xs.length ≤ sizeLine) (hok : JoinOk sep (xs.map F) = true) (q : Q (.str (Txt.join sep (xs.map F))) H)
    (hS : S.kind = .function := by rfl) (hco : S.isCoroutine = false := by rfl) (h0 : S.names.lookup (".0" : Str) = some .local := by rfl) (hxl : S.names.lookup x = some .local := by rfl) (hqk : S.names.lookup qn = some .globalImplicit := by rfl)
    (hnf : (S.names.all fun z => z.2 != .free && z.2 != .cell) = true := by decide)
    (hd1 : (qn == ("__debug__" : Str)) = false := by decide) (hd2 : (x == ("__debug__" : Str)) = false := by decide) (hd3 : (y == ("__debug__" : Str)) = false := by decide) (hd4 : (y == ("__classdict__" : Str)) = false := by decide) (hd5 : (x == ("__classdict__" : Str)) = false := by decide) (hline : (apos.endLine == pos.line) = true := by rfl) :
    EW B n env loc (.Call (.Attribute (.Constant (.str sep) kc p0) (Str.ofString "join") apos) [.GeneratorExp (.Call (.Name qn qpos) [.Name x xpos] [] cpos) [⟨.Name x tpos, .Name y ypos, [], 0⟩] S gpos] [] pos) H Q := fun A E s ρ QQ hA SS L kk => by
  have hnofree : ∀ z ∈ S.names, z.2 ≠ .free := fun z hz => by have := List.all_eq_true.mp hnf z hz; simp at this; exact this.1
  have hnocell : ∀ z ∈ S.names, z.2 ≠ .cell := fun z hz => by have := List.all_eq_true.mp hnf z hz; simp at this; exact this.2
  refine wpAny_Call_method rfl rfl hline PySem.F.plainAttrs_str PySem.F.slot_str_join PySem.F.type_str_join (Constant_str ?_)
  refine ⟨typeIs_str _ _ _, fun a e => (by cases e), ?_⟩
  refine callWith_builtin rfl ?_
  refine evalArgs_plain (x := eval (.GeneratorExp (.Call (.Name qn qpos) [.Name x xpos] [] cpos) [⟨.Name x tpos, .Name y ypos, [], 0⟩] S gpos) env) (rest := []) (spliced_cons ?_)
  -- the state behind the first constant
  have S0 : SB B ρ H { s with toks := s.toks + 1 } := SS.tok SS.ltok
  have st0 : Step B ρ ρ s { s with toks := s.toks + 1 } := Step.tok
  have L0 := L.step st0
  generalize hs0 : ({ s with toks := s.toks + 1 } : Shared) = s0 at *
  generalize s.toks = tsep at *
  refine wpAny_with_toks S0.toks (wpAny_GeneratorExp_walksQD (cl := []) hA.h hco (closureFor_none hnofree) hnocell h0 hxl hS hA.room ?_ (fun _ => rfl))
  have hname : EW B n env loc (.Name y ypos) H fun v H1 => v = .ref k ∧ H1 = H := EW.name hy ⟨rfl, rfl⟩ hd3 hd4
  refine hname A _ s0 ρ _ hA S0 L0 fun v v' H1 ρ1 s1 q1 vv S1 st1 => ?_
  obtain ⟨rfl, rfl⟩ := q1
  obtain ⟨l, el, rfl⟩ := vv
  obtain ⟨vs', ml, gl, rl, hl⟩ := S1.list hk el
  obtain ⟨lt, hlt, hlx⟩ := rl.strsOf hx
  refine wpAny_pyIter_list hl ⟨?_, ?_⟩
  · exact (W.nolimit.at fun o e => S1.keep _ _ e (np W.ps)).push _
  obtain ⟨more0, hcode, htab⟩ := S1.tab.keeps (h' := s1.heap.push { cls := .type "list_iterator", data := .fields #[.ref l, .int 0 0] }) fun b o e => Heap.get?_push_of_some _ e
  have hIn : s1.heap.get? s1.heap.objs.size = none := no_new
  have fact : ∀ a, s1.heap.get? a = none → a ∉ ρ1 ∧ a ≠ B.P ∧ a ≠ B.c ∧ B.hb.get? a = none := fun a ha => by
    have hP : a ≠ B.P := fun e => by obtain ⟨ob, e'⟩ := S1.tab.there; rw [← e, ha] at e'; cases e'
    have hb : B.hb.get? a = none := by
      cases q : B.hb.get? a with
      | none => rfl
      | some o => rw [S1.keep a o q (np hP)] at ha; cases ha
    exact ⟨fun h => (by obtain ⟨ob, e⟩ := S1.mem h; rw [ha] at e; cases e), hP, fun e => (by obtain ⟨o, e'⟩ := T.c; rw [e, e'] at hb; cases hb), hb⟩
  -- what follows the code's making
  have rest : ∀ (code : Value) (h3 : Heap) (tk : Nat), (∀ b o, b ≠ B.P → (s1.heap.push { cls := .type "list_iterator", data := .fields #[.ref l, .int 0 0] }).get? b = some o → h3.get? b = some o) → B.Tab h3 → (s1.heap.push { cls := .type "list_iterator", data := .fields #[.ref l, .int 0 0] }).objs.size ≤ h3.objs.size →
      wpAny B.M A (builtinsFor env.globals env.builtins) (fun bi s₄ =>
        ∃ I fp wr n₀ P St₀ pz F, (Value.ref s1.heap.objs.size) = .ref I ∧ (∀ A' : Around, A'.handled = none → Walks B.prog B.w A' I fp wr n₀ P St₀) ∧ St₀ 0 s₄.heap ∧ (∀ b ∈ fp, b < s₄.heap.objs.size) ∧ s₄.heap.NoLimit ∧ cStatics ∉ wr ∧
          (∀ href : Heap, (∀ b o, s₄.heap.get? b = some o → href.get? b = some o) →
            QuietGenD B.prog B.w (genEnv S [] s₄.heap.objs.size code bi env) x [] (.Call (.Name qn qpos) [.Name x xpos] [] cpos) (List.range s₄.heap.objs.size) wr P pz F href (A.depth + 1) (A.units + 8)) ∧
          (∀ a h₅ tk gs, gs.bare = true → s₄.heap.objs.size < a → h₅.objs.size = a + 1 → (∀ b o, s₄.heap.get? b = some o → h₅.get? b = some o) →
            WalksS B.prog B.w A.in4 a (a :: s₄.heap.objs.size :: List.range s₄.heap.objs.size) (s₄.heap.objs.size :: wr) (GenOnlyQ s₄.gens.size) (passing pz n₀ 0).length
              (fun j y => ∃ i, (passing pz n₀ 0)[j]? = some i ∧ F i y) (GenAt B.prog B.w A.in4 a s₄.gens.size s₄.heap.objs.size (List.range s₄.heap.objs.size) wr pz n₀ F) →
            GenAt B.prog B.w A.in4 a s₄.gens.size s₄.heap.objs.size (List.range s₄.heap.objs.size) wr pz n₀ F 0 { s₄ with gens := s₄.gens.push gs, toks := tk, heap := h₅ } →
            B.t0 ≤ ({ s₄ with gens := s₄.gens.push gs, toks := tk, heap := h₅ } : Shared).toks → wpAny B.M A (spliced (backTo pos (starEach [] env))) (fun vs s' => wpAny B.M A (PySem.call (.builtin "str.join") ([Value.str sep tsep] ++ (Value.ref a :: vs))) QQ E s') E { s₄ with gens := s₄.gens.push gs, toks := tk, heap := h₅ })) (fun e s' => B.t0 ≤ s'.toks → E e s') { s1 with heap := h3, toks := tk } := fun code h3 tk hk3 tab3 hsz3 => by
    have keep3 : ∀ a o, B.hb.get? a = some o → a ≠ B.P → h3.get? a = some o := fun a o e n => hk3 a o n (Heap.get?_push_of_some _ (S1.keep a o e (np n)))
    obtain ⟨bm, ob, b1, b2, b3, b4, b5, b6, b7⟩ := W.bmain
    rw [L.glob, L.bu]
    refine wpAny_builtinsFor (m := B.mg) (bm := bm) (o := ob) (W.g.at' fun o e => keep3 _ o e W.pg) b1 b2 (keep3 _ _ b3 b7) b4 b5 b6 ?_
    have hlP : l ≠ B.P := fun e => S1.notP T.P (e ▸ List.mem_of_getElem? el)
    have hlI : l ≠ s1.heap.objs.size := Nat.ne_of_lt (Heap.lt_size gl)
    have hIP : s1.heap.objs.size ≠ B.P := (fact _ hIn).2.1
    have gl3 : h3.IsList l vs'.toArray := ⟨_, hk3 _ _ hlP (Heap.get?_push_of_some _ gl), rfl, ml, rfl⟩
    have gI3 : h3.IsListIter s1.heap.objs.size l 0 := ⟨_, hk3 _ _ hIP (Heap.get?_push_size _ rfl), rfl, rfl⟩
    have hszI : s1.heap.objs.size < h3.objs.size := by have h := hsz3; rw [Heap.size_push] at h; exact h
    have hlen' : vs'.length = xs.length := by rw [← hlt, ← hlx]; simp [strValues]
    refine ⟨s1.heap.objs.size, [s1.heap.objs.size, l], [s1.heap.objs.size], vs'.toArray.size, _, _, fun _ => true, fun i v => ∃ z t, xs[i]? = some z ∧ v = .str (F z) t, rfl, fun A' hA' => Walks.list hA' _ _ hlI vs'.toArray, ⟨gI3, gl3⟩, ?_, ?_, ?_, ?_, ?_⟩
    · intro b hb
      rcases List.mem_cons.mp hb with rfl | hb
      · exact hszI
      · rw [List.mem_singleton.mp hb]; exact Nat.lt_trans (Heap.lt_size gl) hszI
    · exact (W.nolimit.at fun o e => keep3 _ o e W.ps)
    · intro hm
      rw [List.mem_singleton] at hm
      obtain ⟨mc, ⟨o, _, _, e, _⟩, _⟩ := W.nolimit
      have := S1.keep _ _ e (np W.ps)
      rw [hm, hIn] at this; cases this
    · intro href hhref
      refine ⟨fun A' E' i v s₂ m₂ _ _ _ _ _ _ _ => wpAny_tests_nil ⟨rfl, s₂.heap, s₂.toks, rfl, fun _ _ e => e⟩, fun A' E' i v s₂ m₂ hA'h hA'd hA'u hP _ hns hm2 hkeep => ?_⟩
      have k2 : ∀ b o, b ≠ s1.heap.objs.size → h3.get? b = some o → s₂.heap.get? b = some o := fun b o nb e => hkeep b (List.mem_range.mpr (Heap.lt_size e)) (by simpa using nb) o (hhref b o e)
      -- the item
      obtain ⟨z, hz⟩ : ∃ z, xs[i]? = some z := by
        have : i < vs'.length := by
          have := (Array.getElem?_eq_some_iff.mp hP).1; simpa using this
        exact ⟨xs[i]'(by omega), List.getElem?_eq_getElem (by omega)⟩
      obtain ⟨tz, rfl⟩ : ∃ t, v = .str z t := by
        rw [← hlt] at hP
        rw [← hlx] at hz
        simp only [strValues, List.getElem?_toArray, List.getElem?_map] at hP hz
        cases e : lt[i]? with
        | none => rw [e] at hz; cases hz
        | some pz => rw [e] at hP hz; cases hP; cases hz; exact ⟨_, rfl⟩
      let B' := B.still (hideAll h3 [s1.heap.objs.size]) s₂.os fun g d => g = s₂.gens ∧ d = s₂.drawn
      have hbk : ∀ a o, B.hb.get? a = some o → a ≠ B.P → (hideAll h3 [s1.heap.objs.size]).get? a = some o := fun a o e n => hideAll_get _ (keep3 a o e n) fun h => by
        rw [List.mem_singleton] at h; rw [h, (fact _ hIn).2.2.2] at e; cases e
      have hPh : ∃ o, (hideAll h3 [s1.heap.objs.size]).get? B.P = some o := by
        obtain ⟨o, e⟩ := tab3.there
        exact ⟨o, hideAll_get _ e fun h => hIP (List.mem_singleton.mp h).symm⟩
      have SB2 : SB B' [] [] s₂ := by
        refine ⟨fun a o e _ => ?_, fun a h => (by cases h), rfl, List.nodup_nil, fun k o a e => (by cases e), ?_, ⟨rfl, rfl⟩, rfl, Nat.zero_le _⟩
        · exact k2 a o (fun q => by rw [show (hideAll h3 [s1.heap.objs.size]).get? a = none from hideAll_none _ (by rw [q]; exact .head _)] at e; cases e) (of_hideAll _ e)
        · exact Wd.Tab.but (B := B) (X := (· = s1.heap.objs.size)) tab3 (fun b o nb e => k2 b o nb e) (fun e => (fact _ hIn).2.2.1 e.symm) (fun e => hIP e.symm)
      have W' : B'.Ok := by
        refine ⟨W.g.at' fun o e => hbk _ o e W.pg, W.b.at' fun o e => hbk _ o e W.pb, W.nolimit.at fun o e => hbk _ o e W.ps, W.builtins, ⟨bm, ob, b1, b2, hbk _ _ b3 b7, b4, b5, b6, b7⟩, W.pg, W.pb, W.ps, W.pc⟩
      have hF' : Callee B' (.ref fq) := by
        cases hF with
        | fn e d nP => exact .fn (hbk _ _ e nP) d nP
        | bound e d c nP => exact .bound (hbk _ _ e nP) d c nP
      have Lc : LocR B' (genEnv S [] h3.objs.size code builtinsNs env) (upd (fun _ => none) x (.str z)) [] s₂.heap := by
        refine ⟨hS, L.glob, rfl, by simp, ?_, ?_, fun _ _ e => (by cases e), fun _ _ _ e => (by cases e), m₂, hns, fun w u e => .inl ?_⟩
        · intro e
          obtain ⟨o, e'⟩ := tab3.there
          exact absurd (Heap.lt_size e') (by rw [show B.P = h3.objs.size from e.symm]; exact Nat.lt_irrefl _)
        · exact Heap.get?_none_of_le (by rw [hideAll_size]; exact Nat.le_refl _)
        · unfold upd at e
          split at e
          · rename_i hw; subst hw; cases e; exact ⟨hxl, _, hm2, tz, rfl⟩
          · cases e
      have hAm : AOk m A' := ⟨hA'h, by have := hA.d; omega, by have := hA.u; omega⟩
      have hew : EW B' m (genEnv S [] h3.objs.size code builtinsNs env) (upd (fun _ => none) x (.str z)) (.Call (.Name qn qpos) [.Name x xpos] [] cpos) [] fun v H' => v = .str (F z) ∧ H' = [] := by
        refine EW.call W' (.top hq) hF' (EWs.cons (EW.name (by unfold upd; rw [if_pos rfl]) (EWs.nil (hcall _ _ _ hbk hPh z (List.mem_of_getElem? hz))) hd2 hd5)) hqk hd1
      refine hew A' E' s₂ [] _ hAm SB2 Lc fun v v' H' ρ' s3 qv vv S3 st3 => ?_
      obtain ⟨rfl, rfl⟩ := qv
      obtain ⟨t3, rfl⟩ := vv
      have hρ' : ρ' = [] := List.length_eq_zero_iff.mp S3.len
      subst hρ'
      refine ⟨⟨z, t3, hz, rfl⟩, s3.heap, s3.toks, ?_, fun b o e => st3.keep b o e (by simp) (fun h => by cases h)⟩
      obtain ⟨g1, g2⟩ := S3.gens
      have g3 := S3.os
      have g3 : s3.os = s₂.os := g3
      cases s3
      dsimp only at g1 g2 g3
      rw [g1, g2, g3]
    · intro a h5 tk5 gs hgs ha5 hsz5 hk5 WS hGA ht5
      have ha5' : h3.objs.size < a := ha5
      have hk5' : ∀ b o, h3.get? b = some o → h5.get? b = some o := hk5
      have hlenP : (passing (fun _ => true) vs'.toArray.size 0) = List.range vs'.toArray.size := by
        unfold passing; rw [List.drop_zero]; exact List.filter_eq_self.mpr fun _ _ => rfl
      refine spliced_nil ?_
      refine wpAny_with_toks (n := B.t0) ht5 (SC.joinGen WS.in4_2 (fun i s st => st.1.typeIs) hGA ?_ List.mem_cons_self (fun i v hv => ?_) (fun s' ls hm hit => ?_) ?_)
      · intro b hb
        show b < h5.objs.size
        rw [hsz5]
        rcases List.mem_cons.mp hb with rfl | hb
        · exact Nat.lt_succ_self _
        · rcases List.mem_cons.mp hb with rfl | hb
          · exact Nat.lt_succ_of_lt ha5
          · exact Nat.lt_succ_of_lt (Nat.lt_trans (List.mem_range.mp hb) ha5)
      · obtain ⟨i', _, z, t, _, rfl⟩ := hv; exact ⟨_, _, rfl⟩
      · have hls : ls.map (·.1) = xs.map F := by
          have hln : ls.length = xs.length := by
            have := hit.1
            rw [hlenP] at this
            simp [strValues] at this
            omega
          apply List.ext_getElem?
          intro j
          by_cases hj : j < xs.length
          · have hj' : j < ls.length := by omega
            have h1 := hit.2 j (.str ls[j].1 ls[j].2) (by simp [strValues, List.getElem?_eq_getElem hj'])
            rw [hlenP] at h1
            obtain ⟨i, hi, z, t, hz, e⟩ := h1
            have hij : i = j := by
              have hjl : j < vs'.toArray.size := by simp; omega
              rw [List.getElem?_range hjl] at hi
              exact (Option.some.inj hi).symm
            subst hij
            injection e with e1 _
            simp [List.getElem?_eq_getElem hj', hz, e1]
          · rw [List.getElem?_eq_none (by simp; omega), List.getElem?_eq_none (by simp; omega)]
        rw [hls]
        refine ⟨hok, fun t' tk' htk' => ?_⟩
        have nw : ∀ b, b ∈ [h3.objs.size, s1.heap.objs.size] → s1.heap.get? b = none := fun b hb => by
          rcases List.mem_cons.mp hb with rfl | hb
          · exact Heap.get?_none_of_le (Nat.le_of_lt hszI)
          · rw [List.mem_singleton.mp hb]; exact hIn
        have moved : ∀ b o, b ≠ B.P → s1.heap.get? b = some o → s'.heap.get? b = some o := fun b o nP e =>
          hm.heap b o (fun hb => by rw [nw b hb] at e; cases e) (hk5' b o (hk3 b o nP (Heap.get?_push_of_some _ e)))
        have hcn : B.c ∉ [h3.objs.size, s1.heap.objs.size] := fun hb => by
          obtain ⟨o, e⟩ := T.c
          have := S1.keep _ _ e (np W.pc)
          rw [nw _ hb] at this; cases this
        have hPn : B.P ∉ [h3.objs.size, s1.heap.objs.size] := fun hb => by
          obtain ⟨o, e⟩ := S1.tab.there
          rw [nw _ hb] at e; cases e
        obtain ⟨Sf, stf⟩ := S1.remake (s' := { s' with toks := tk' }) T hgr moved
          (Wd.Tab.but (B := B) (X := (· ∈ [h3.objs.size, s1.heap.objs.size])) (tab3.keeps hk5') (fun b o nb e => hm.heap b o nb e) hcn hPn)
          (by
            have g1 := S1.gens
            rw [hgk] at g1 ⊢
            exact ((AllBare.push g1 hgs).movedS (s := ({ s1 with heap := h5, toks := tk5, gens := s1.gens.push gs } : Shared)) hm : AllBare s'.gens)) hm.os htk'
        exact kk _ _ _ ρ1 _ q ⟨t', rfl⟩ Sf ((st0.trans S0 st1).trans S1 stf)
      · rw [hlenP]; simp; omega
  cases hca : codeAmong gpos (B.ps0 ++ more0).toList with
  | none =>
    refine wpAny_genexprCodeX hc hcode htab hca fun c' h' tk hx' hge hlt' hcode' _ htab' _ => ?_
    rw [Array.append_assoc] at hcode' htab'
    exact rest _ h' tk (fun b o nb e => hx' b o nb e) ⟨_, hcode', htab'⟩ (Nat.le_trans hge (Nat.le_of_lt hlt'))
  | some c' =>
    refine wpAny_genexprCode_hit hc hcode hca ?_
    exact rest _ _ s1.toks (fun b o _ e => e) ⟨_, hcode, htab⟩ (Nat.le_refl _)
end
end Mine

end
section
open PySem PySem.W PySem.Calls PyProof.Rows
set_option maxRecDepth 100000
namespace Mine

section
variable {prog : Program} {w : World} {A : Around} {E : Value → Shared → Prop} {s : Shared}

theorem nextOf_tuple_item {it l : Addr} {i : Nat} {items} {x : Value} {Q : Value → Shared → Prop} (hit : s.heap.IsTupleIter it l i) (hl : s.heap.IsTuple l items) (hx : items[i]? = some x)
    (hQ : ∀ h', h'.IsTupleIter it l (i + 1) → Heap.SameBut it s.heap h' → Q x { s with heap := h' }) : wpAny (model prog w) A (Builtin.SmallTypes.nextOf (.ref it)) Q E s := by
  obtain ⟨o, ho, hc, hd⟩ := id hit
  obtain ⟨ol, hol, _, nl, hdl⟩ := hl
  unfold Builtin.SmallTypes.nextOf
  refine wpAny_bind (wpAny_callSpecial?_slot (name := Str.ofString "__next__") hit.typeIs PySem.F.slot_tuple_iterator_next
    (wpAny_call_entry PySem.F.slot_tuple_iterator_next hit.typeIs PySem.F.entry_tuple_iterator_next ?_ (PySem.F.args_tuple_iterator_next_1 _)))
  show wpAny _ _ (field (.ref it) 0 >>= _) _ _ s
  refine wpAny_bind (wpAny_field ho hd (x := .ref l) rfl ?_)
  show wpAny _ _ (if (Value.ref l == Value.none) = true then _ else _) _ _ s
  rw [if_neg (show ¬ ((Value.ref l == Value.none) = true) from Bool.false_ne_true)]
  show wpAny _ _ (field (.ref it) 1 >>= _) _ _ s
  refine wpAny_bind (wpAny_field ho hd (x := .int i 0) rfl ?_)
  show wpAny _ _ (seqItems? (.ref l) >>= _) _ _ s
  refine wpAny_bind (wpAny_seqItems hol hdl ?_)
  simp only [Int.toNat_natCast, hx]
  refine wpAny_bind (wpAny_setField ho hd (by simp) (wpAny_pure ⟨x, rfl, wpAny_pure (hQ _ ?_ (Heap.SameBut.update ..))⟩))
  exact ⟨_, Heap.get?_update_self _ ho (Obj.isFreed_of_fields (Obj.data_mapFields hd _)), (Obj.cls_mapFields ..).trans hc, by
    rw [Obj.data_mapFields hd]; simp [rawInt]⟩

theorem nextOf_tuple_end {it l : Addr} {i : Nat} {items} {Q : Value → Shared → Prop} (hh : A.handled = none) (hit : s.heap.IsTupleIter it l i) (hl : s.heap.IsTuple l items) (hx : items[i]? = none)
    (hE : ∀ h' e, Heap.ExtBut it s.heap h' → (∃ o, h'.get? e = some o ∧ o.cls = .type "StopIteration") → E (.ref e) { s with heap := h' }) :
    wpAny (model prog w) A (Builtin.SmallTypes.nextOf (.ref it)) Q E s := by
  obtain ⟨o, ho, hc, hd⟩ := id hit
  obtain ⟨ol, hol, _, nl, hdl⟩ := hl
  unfold Builtin.SmallTypes.nextOf
  refine wpAny_bind (wpAny_callSpecial?_slot (name := Str.ofString "__next__") hit.typeIs PySem.F.slot_tuple_iterator_next
    (wpAny_call_entry PySem.F.slot_tuple_iterator_next hit.typeIs PySem.F.entry_tuple_iterator_next ?_ (PySem.F.args_tuple_iterator_next_1 _)))
  show wpAny _ _ (field (.ref it) 0 >>= _) _ _ s
  refine wpAny_bind (wpAny_field ho hd (x := .ref l) rfl ?_)
  show wpAny _ _ (if (Value.ref l == Value.none) = true then _ else _) _ _ s
  rw [if_neg (show ¬ ((Value.ref l == Value.none) = true) from Bool.false_ne_true)]
  show wpAny _ _ (field (.ref it) 1 >>= _) _ _ s
  refine wpAny_bind (wpAny_field ho hd (x := .int i 0) rfl ?_)
  show wpAny _ _ (seqItems? (.ref l) >>= _) _ _ s
  refine wpAny_bind (wpAny_seqItems hol hdl ?_)
  simp only [Int.toNat_natCast, hx]
  refine wpAny_bind (wpAny_rule (wpAny_bind (wpAny_setField ho hd (by simp) ?_)))
  show wpAny _ _ (newExc (.type "StopIteration") [] >>= _) _ _ _
  refine wpAny_bind ?_
  simp only [newExc, newTuple]
  refine wpAny_bind (wpAny_newObj_type ?_ (by size_fits))
  refine wpAny_bind (m := firstArgMember _ _) (wpAny_of_eq (a := Value.none) (by first | rfl | (simp only [firstArgMember]; rfl)) ?_)
  refine wpAny_newObj_type ?_ (by size_fits)
  simp only [raiseNew]
  refine wpAny_bind (wpAny_handled ?_)
  first | rw [show A.in1.handled = none from hh] | rw [hh]
  refine wpAny_bind (wpAny_pure (wpAny_throw ?_))
  exact hE _ _ (((Heap.SameBut.update ..).extBut.push _).push _) ⟨_, Heap.get?_push_size _ rfl, rfl⟩
end

theorem draws_tuple {prog : Program} {w : World} {A : Around} (hh : A.handled = none) (it l : Addr) (hne : l ≠ it) (items : Array Value) :
    Draws prog w A it [it, l] items.size (fun i v => items[i]? = some v) (fun i h => h.IsTupleIter it l i ∧ h.IsTuple l items) where
  live := fun i h st => let ⟨o, ho, _⟩ := st.1; ⟨o, ho⟩
  frame := fun _ _ _ st hk => ⟨st.1.at fun o e => hk it (by simp) o e, st.2.at fun o e => hk l (by simp) o e⟩
  item := fun i s Q E hi st hQ => nextOf_tuple_item st.1 st.2 (x := items[i]) (by simp [hi]) fun h' hit' hs' => hQ _ h' s.toks (by simp [hi]) ⟨hit', st.2.extBut hs'.extBut hne⟩ hs'
  done := fun s Q E st hE => nextOf_tuple_end hh st.1 st.2 (by simp) fun h' e he hx => hE h' e he hx

set_option maxHeartbeats 1000000 in
theorem meets_enumT (l : Addr) (items : Array Value) (n : Nat) :
    Meets (Builtin.«enumerate.__new__» ⟨[.type "enumerate", .ref l], []⟩) (fun _ R s => s.heap.get? l = some { cls := .type "tuple", dict := none, data := .seq items n, slots := #[] } ∧
      R (.ok (.ret (.ref (s.heap.push { cls := .type "tuple_iterator", data := .fields #[.ref l, .int 0 0] }).objs.size)))
        { s with heap := (s.heap.push { cls := .type "tuple_iterator", data := .fields #[.ref l, .int 0 0] }).push { cls := .type "enumerate", data := .fields #[.none, .bool false, .ref s.heap.objs.size, rawInt 0, .none, .none] } }) :=
  .of_wp fun prog w A R s h => by
    obtain ⟨hp, g, d, tk, os⟩ := s; obtain ⟨hl, h⟩ := h
    have hsub := sub_enumerate
    have hL : Heap.IsTuple (Shared.heap ⟨hp, g, d, tk, os⟩) l items := ⟨_, hl, rfl, n, rfl⟩
    wp_walk using wpAny_loadPart' hl
    refine wpAny_stack_any fun st => wpAny_pure ?_
    split
    · rename_i c _ _ _ _ _
      cases (c == Value.type "enumerate")
      · wp_walk using wpAny_loadPart' hl, wpAny_pyIter_tuple hL
        exact ⟨_, rfl, h⟩
      · wp_walk using wpAny_loadPart' hl, wpAny_pyIter_tuple hL
        exact ⟨_, rfl, h⟩
    · wp_walk using wpAny_loadPart' hl, wpAny_pyIter_tuple hL
      exact ⟨_, rfl, h⟩

theorem call_enumT {prog : Program} {w : World} {A : Around} {E : Value → Shared → Prop} {s : Shared} {l : Addr} {items : Array Value} {n : Nat} {Q : Value → Shared → Prop} (hl : s.heap.get? l = some { cls := .type "tuple", dict := none, data := .seq items n, slots := #[] })
    (h : ∀ h', IsEnum h' (s.heap.objs.size + 1) s.heap.objs.size 0 .none → h'.IsTupleIter s.heap.objs.size l 0 → (∀ b o, s.heap.get? b = some o → h'.get? b = some o) → Q (.ref (s.heap.objs.size + 1)) { s with heap := h' }) :
    wpAny (model prog w) A (call (.type "enumerate") [.ref l]) Q E s := by
  refine callType_new PySem.F.called_enumerate (by decide) (PySem.F.typeCall_enumerate_1 _) (PySem.F.newCall_enumerate_1 _) (fun obj => PySem.F.args_object_init_2 obj _) PySem.F.entry_enumerate_new (meets_enumT l items n) ⟨hl, ?_⟩
  have hz : (s.heap.push { cls := .type "tuple_iterator", data := .fields #[.ref l, .int 0 0] }).objs.size = s.heap.objs.size + 1 := Heap.size_push ..
  show _ ∧ _
  rw [hz]
  have he : IsEnum ((s.heap.push { cls := .type "tuple_iterator", data := .fields #[.ref l, .int 0 0] }).push { cls := .type "enumerate", data := .fields #[.none, .bool false, .ref s.heap.objs.size, rawInt 0, .none, .none] }) (s.heap.objs.size + 1) s.heap.objs.size 0 .none := by
    have := Heap.get?_push_size (s.heap.push { cls := .type "tuple_iterator", data := .fields #[.ref l, .int 0 0] }) (o := { cls := .type "enumerate", data := .fields #[.none, .bool false, .ref s.heap.objs.size, rawInt 0, .none, .none] }) rfl
    rw [hz] at this; exact this
  refine ⟨⟨_, he, rfl⟩, h _ he ⟨_, Heap.get?_push_of_some _ (Heap.get?_push_size _ rfl), rfl, rfl⟩ fun b o e => Heap.get?_push_of_some _ (Heap.get?_push_of_some _ e)⟩
end Mine

end
section
open PySem PySem.W PySem.Calls PyProof.Rows
set_option maxRecDepth 100000
namespace Mine
section
variable {B : Wd} {n : Nat} {env : Env} {loc : Loc} {H : List O} {Q : Fl → Loc → List O → Prop}

/-- for i, v in enumerate(T), over a tuple of the world that was -/
theorem ST.forEnum {xi xv tbl en : Str} {pi pv pt ep tp cpos pos : Pos} {c : Nat} {body orelse : List Stmt} {t : Addr} {vs : List V} {vs' : List Value} {mm : Nat} (W : B.Ok) (T : B.There)
    (ht : B.hb.get? t = some { cls := .type "tuple", dict := none, data := .seq vs'.toArray mm, slots := #[] }) (hP : t ≠ B.P) (hv : VRs [] vs vs') (hg : B.mg tbl = some (.ref t)) (he : Glob B en (.type "enumerate"))
    (I : Nat → Loc → List O → Prop) (h0 : I 0 loc H)
    (turn : ∀ i v loc H, vs[i]? = some v → I i loc H → FW B n env (execs body env) (upd (upd loc xi (.int i)) xv v) H fun f l H' => match f with | .next => I (i + 1) l H' | .cont => I (i + 1) l H' | .brk => Q .next l H' | .ret v => Q (.ret v) l H')
    (fin : ∀ loc H, I vs.length loc H → FW B n env (execs orelse env) loc H Q)
    (hxi : env.kindOf xi = some .local := by rfl) (hxv : env.kindOf xv = some .local := by rfl) (hk1 : env.kindOf en = some .globalImplicit := by rfl) (hk2 : env.kindOf tbl = some .globalImplicit := by rfl)
    (hd1 : (en == ("__debug__" : Str)) = false := by decide) (hd2 : (tbl == ("__debug__" : Str)) = false := by decide) :
    FW B n env (exec (.For (.Tuple [.Name xi pi, .Name xv pv] c pt) (.Call (.Name en ep) [.Name tbl tp] [] cpos) body orelse pos) env) loc H Q := fun A E s ρ QQ hA S L kk => by
  have htu : B.hb.IsTuple t vs'.toArray := ⟨_, ht, rfl, mm, rfl⟩
  have hat : ∀ h : Heap, (∀ a o, B.hb.get? a = some o → B.NP a → h.get? a = some o) → h.IsTuple t vs'.toArray := fun h hk => htu.at fun o e => hk t o e (np hP)
  refine wpAny_For ?_ (fun _ => rfl)
  show wpAny _ A (do callWith cpos (← eval (.Name en ep) env) [] (backTo cpos (starEach [.Name tbl tp] env)) (backToKw cpos (keywordEach [] env))) _ _ s
  refine wpAny_bind (wpAny_glob W S L hk1 he ?_ hd1)
  refine PyProof.Rows.callWith_type rfl (evalArgs_plain (x := eval (.Name tbl tp) env) (rest := []) (spliced_cons (wpAny_global W S L hk2 hg (spliced_nil ?_) hd2)))
  refine call_enumT (S.keep _ _ ht (np hP)) fun h1 hE1 hI1 hk1 => ?_
  have S1 : SB B ρ H { s with heap := h1 } := S.keeps (tk := s.toks) hk1 S.toks
  have st1 : Step B ρ ρ s { s with heap := h1 } := Step.keeps (tk := s.toks) hk1
  have L1 := L.step st1
  refine wpAny_pyIter_enum (s := { s with heap := h1 }) hE1 ?_
  generalize hen : s.heap.objs.size + 1 = e at *
  generalize hin : s.heap.objs.size = it at *
  have hne : e ≠ it := by omega
  have nw : ∀ a, a = e ∨ a = it → s.heap.get? a = none := fun a h => Heap.get?_none_of_le (by omega)
  have nit : ∀ a, a = e ∨ a = it → a ∉ ρ ∧ a ≠ B.P ∧ B.hb.get? a = none ∧ ¬ Own env a := fun a h => by
    have ha := nw a h
    have hP : a ≠ B.P := fun e => by obtain ⟨ob, e'⟩ := S.tab.there; rw [← e, ha] at e'; cases e'
    refine ⟨fun h => (by obtain ⟨ob, e⟩ := S.mem h; rw [ha] at e; cases e), hP, ?_, fun h => (by obtain ⟨o, e⟩ := L.owned a h; rw [ha] at e; cases e)⟩
    cases q : B.hb.get? a with
    | none => rfl
    | some o => rw [S.keep a o q (np hP)] at ha; cases ha
  have hte : t ≠ e := fun q => by rw [q, (nit e (.inl rfl)).2.2.1] at ht; cases ht
  have hti : t ≠ it := fun q => by rw [q, (nit it (.inr rfl)).2.2.1] at ht; cases ht
  have D : Draws B.prog B.w A.in1 it [it, t] vs'.toArray.size _ _ := draws_tuple (A := A.in1) (show A.in1.handled = none from hA.h) it t hti vs'.toArray
  have hlen : vs.length = vs'.toArray.size := by rw [List.size_toArray]; exact hv.length
  refine codeAny_forLoop_any (fun k s' => ∃ i loc' H' ρ' old, k = vs.length + 1 - i ∧ i ≤ vs.length ∧ I i loc' H' ∧ IsEnum s'.heap e it (i : Nat) old ∧ s'.heap.IsTupleIter it t i ∧ SB B ρ' H' s' ∧ LocR B env loc' ρ' s'.heap ∧ e ∉ ρ' ∧ it ∉ ρ' ∧
      StepX B (fun a => Own env a ∨ (a = e ∨ a = it)) ρ ρ' s s') ?_ (vs.length + 1) ⟨0, loc, H, ρ, .none, rfl, Nat.zero_le _, h0, hE1, hI1, S1, L1, (nit e (.inl rfl)).1, (nit it (.inr rfl)).1, st1.toX⟩
  rintro k s' ⟨i, loc', H', ρ', old, rfl, hi, hI, hE, hIt, S', L', n1, n2, st'⟩
  obtain ⟨oi, hoi, _⟩ := id hIt
  have nX : ∀ a, a = e ∨ a = it → a ∉ ρ' := fun a h => h.elim (fun q => q ▸ n1) fun q => q ▸ n2
  have sbk : ∀ {h' : Heap} {tk : Nat}, (∀ b o, ¬ (b = e ∨ b = it) → s'.heap.get? b = some o → h'.get? b = some o) → B.t0 ≤ tk → SB B ρ' H' { s' with heap := h', toks := tk } := fun {h' tk} hk ht =>
    S'.other T (X := fun a => a = e ∨ a = it) (fun a h => ⟨nX a h, (nit a h).2.2.1⟩) hk ht
  have lk : ∀ {h' : Heap}, (∀ b o, ¬ (b = e ∨ b = it) → s'.heap.get? b = some o → h'.get? b = some o) → LocR B env loc' ρ' h' := fun {h'} hk => L'.at fun a o ho e => hk a o (fun q => (nit a q).2.2.2 ho) e
  have stk : ∀ {h' : Heap} {tk : Nat}, (∀ b o, ¬ (b = e ∨ b = it) → s'.heap.get? b = some o → h'.get? b = some o) → StepX B (fun a => Own env a ∨ (a = e ∨ a = it)) ρ' ρ' s' { s' with heap := h', toks := tk } := fun {h' tk} hk =>
    ⟨⟨[], by simp, by simp⟩, fun a o e _ _ nx => hk a o (fun q => nx (.inr q)) e⟩
  have own : ∀ {h' : Heap}, (∀ a, Own env a → ∃ o, h'.get? a = some o) → (∃ o, h'.get? e = some o) → (∃ o, h'.get? it = some o) → ∀ a, (Own env a ∨ (a = e ∨ a = it)) → ∃ o, h'.get? a = some o := fun h1 h2 h3 a h => by
    rcases h with h | rfl | rfl
    · exact h1 a h
    · exact h2
    · exact h3
  have out : ∀ {ρ4 : List Addr} {s4 : Shared}, StepX B (fun a => Own env a ∨ (a = e ∨ a = it)) ρ ρ4 s s4 → StepX B (Own env) ρ ρ4 s s4 := fun st => ⟨st.ext, fun a o ea na nP nO => st.keep a o ea na nP fun h => h.elim nO fun q => by rw [nw a q] at ea; cases ea⟩
  by_cases hlt : i < vs.length
  · obtain ⟨v, hvi⟩ : ∃ v, vs[i]? = some v := ⟨vs[i], List.getElem?_eq_getElem hlt⟩
    obtain ⟨v', hv'i, hvv⟩ := hv.get hvi
    refine wpAny_with_toks S'.toks (wpAny_pyNext_enum_itemD D hE ⟨hIt, hat _ S'.keep⟩ (by omega) hne (by simp [hne, Ne.symm hte]) fun x h2 tk hx hO hst2 hT2 hz2 hk2 htk => ?_)
    have hx' : x = v' := by
      have hx : vs'.toArray[i]? = some x := hx
      simp only [List.getElem?_toArray] at hx
      rw [hv'i] at hx; exact (Option.some.inj hx).symm
    subst hx'
    have hk2' : ∀ b o, ¬ (b = e ∨ b = it) → s'.heap.get? b = some o → h2.get? b = some o := fun b o nb eb => hk2 b o (fun q => nb (.inl q)) (fun q => nb (.inr q)) eb
    have helt : e < s'.heap.objs.size := Heap.lt_size hE
    have hilt : it < s'.heap.objs.size := Heap.lt_size hoi
    refine wpAny_letOwnedTupleGo_enum (s := { s' with heap := h2, toks := tk + 1 }) hO fun h3 hE3 hs3 => ?_
    replace hs3 : Heap.SameBut e h2 h3 := hs3
    have hT3 : h3.IsTuple s'.heap.objs.size #[.int i tk, x] := ⟨_, (hs3.2 _ (Nat.ne_of_gt helt)).trans hT2, rfl, _, rfl⟩
    have hk3 : ∀ b o, ¬ (b = e ∨ b = it) → s'.heap.get? b = some o → h3.get? b = some o := fun b o nb eb => hs3.extBut b o (fun q => nb (.inl q)) (hk2' b o nb eb)
    have hI3 : h3.IsTupleIter it t (i + 1) := hst2.1.extBut hs3.extBut (Ne.symm hne)
    refine wpAny_assign_Tuple (s := { s' with heap := h3, toks := tk + 1 }) hA.h hT3 rfl rfl fun h4 hx4 => ?_
    have S3 := sbk (tk := tk + 1) hk3 htk
    have hb4 := Step.beside (B := B) (ρ := ρ') (s := { s' with heap := h3, toks := tk + 1 }) hx4
    refine wpAny_two (v := .int i) T (S3.beside hx4) ((lk hk3).step hb4) ⟨tk, rfl⟩ (by simpa using hvv.mono (more := ρ')) hxi hxv fun s5 S5 L5 st5 => ?_
    refine turn i v loc' H' hvi hI A _ s5 ρ' _ hA S5 L5 fun f f' l6 H6 ρ6 s6 q6 r6 S6 L6 st6 => ?_
    have nL : ∀ a, a = e ∨ a = it → a ≠ env.locals := fun a h q => (nit a h).2.2.2 (.inl q)
    have up : ∀ a o, a = e ∨ a = it → h3.get? a = some o → s6.heap.get? a = some o := fun a o h ea =>
      st6.keep a o (st5.keep a o (hb4.keep a o ea (nX a h) (np (nit a h).2.1)) (nX a h) (np (nit a h).2.1) (nL a h)) (nX a h) (np (nit a h).2.1) (nit a h).2.2.2
    have hE6 : IsEnum s6.heap e it ((i + 1 : Nat) : Int) x := by
      have : ((i + 1 : Nat) : Int) = (i : Int) + 1 := by push_cast; rfl
      rw [this]; exact up e _ (.inl rfl) hE3
    have hI6 : s6.heap.IsTupleIter it t (i + 1) := by
      obtain ⟨o, ho, r⟩ := hI3; exact ⟨o, up it o (.inr rfl) ho, r⟩
    have ex3e : ∃ o, h3.get? e = some o := ⟨_, hE3⟩
    have ex3i : ∃ o, h3.get? it = some o := let ⟨o, ho, _⟩ := hI3; ⟨o, ho⟩
    have ex4 : ∀ a, a = e ∨ a = it → ∃ o, h4.get? a = some o := fun a h => by
      rcases h with rfl | rfl
      · obtain ⟨o, ho⟩ := ex3e; exact ⟨o, hb4.keep _ o ho (nX _ (.inl rfl)) (np (nit _ (.inl rfl)).2.1)⟩
      · obtain ⟨o, ho⟩ := ex3i; exact ⟨o, hb4.keep _ o ho (nX _ (.inr rfl)) (np (nit _ (.inr rfl)).2.1)⟩
    have ex5 : ∀ a, a = e ∨ a = it → ∃ o, s5.heap.get? a = some o := fun a h => by
      obtain ⟨o, ho⟩ := ex4 a h; exact ⟨o, st5.keep a o ho (nX a h) (np (nit a h).2.1) (nL a h)⟩
    have sa : StepX B (fun a => Own env a ∨ (a = e ∨ a = it)) ρ ρ' s { s' with heap := h3, toks := tk + 1 } := st'.trans S' (own L'.owned ⟨_, hE⟩ ⟨_, hoi⟩) (stk hk3)
    have sb : StepX B (fun a => Own env a ∨ (a = e ∨ a = it)) ρ ρ' s { s' with heap := h4, toks := tk + 1 } := sa.trans S3 (own (lk hk3).owned ex3e ex3i) hb4.toX
    have sc : StepX B (fun a => Own env a ∨ (a = e ∨ a = it)) ρ ρ' s s5 := sb.trans (S3.beside hx4) (own ((lk hk3).step hb4).owned (ex4 e (.inl rfl)) (ex4 it (.inr rfl))) (st5.wide fun a q => Or.inl (Or.inl q))
    have sd : StepX B (fun a => Own env a ∨ (a = e ∨ a = it)) ρ ρ6 s s6 := sc.trans S5 (own L5.owned (ex5 e (.inl rfl)) (ex5 it (.inr rfl))) (st6.wide fun a q => Or.inl q)
    obtain ⟨m6, hm6, hm6'⟩ := st6.ext
    have n6 : ∀ a, a = e ∨ a = it → a ∉ ρ6 := fun a h q => by
      rw [hm6] at q
      rcases List.mem_append.mp q with q | q
      · exact nX a h q
      · obtain ⟨o, ho⟩ := ex5 a h; rw [hm6' a q] at ho; cases ho
    cases f with
    | next =>
      obtain rfl := r6
      exact ⟨vs.length + 1 - (i + 1), by omega, i + 1, l6, H6, ρ6, x, rfl, hlt, q6, hE6, hI6, S6, L6, n6 e (.inl rfl), n6 it (.inr rfl), sd⟩
    | cont =>
      obtain rfl := r6
      exact ⟨vs.length + 1 - (i + 1), by omega, i + 1, l6, H6, ρ6, x, rfl, hlt, q6, hE6, hI6, S6, L6, n6 e (.inl rfl), n6 it (.inr rfl), sd⟩
    | brk =>
      obtain rfl := r6
      exact kk .next _ l6 H6 ρ6 s6 q6 rfl S6 L6 (out sd)
    | ret u =>
      obtain ⟨u', rfl, hu⟩ := r6
      exact kk (.ret u) _ l6 H6 ρ6 s6 q6 ⟨u', rfl, hu⟩ S6 L6 (out sd)
  · have hil : i = vs.length := by omega
    subst hil
    refine wpAny_pyNext_enum_endD D hE ⟨by rw [← hlen]; exact hIt, hat _ S'.keep⟩ fun h2 hk2 => ?_
    have hk2' : ∀ b o, ¬ (b = e ∨ b = it) → s'.heap.get? b = some o → h2.get? b = some o := fun b o nb eb => hk2 b o (fun q => nb (.inr q)) eb
    have S2 : SB B ρ' H' { s' with heap := h2 } := sbk (tk := s'.toks) hk2' S'.toks
    refine fin loc' H' hI A _ _ ρ' _ hA S2 (lk hk2') fun f f' l4 H4 ρ4 s4 q4 r4 S4 L4 st4 => kk f f' l4 H4 ρ4 s4 q4 r4 S4 L4 ?_
    -- the iterator itself may have gone at the end
    have keep1 : ∀ a o, s.heap.get? a = some o → a ∉ ρ → B.NP a → ¬ Own env a → h2.get? a = some o := fun a o ea na nP nO =>
      hk2' a o (fun q => by rw [nw a q] at ea; cases ea) (st'.keep a o ea na nP fun h => h.elim nO fun q => by rw [nw a q] at ea; cases ea)
    obtain ⟨m1, rfl, hm1⟩ := st'.ext
    obtain ⟨⟨m2, rfl, hm2⟩, k3⟩ := st4
    refine ⟨⟨m1 ++ m2, by simp, fun a ha => ?_⟩, fun a o ea na nP nO => ?_⟩
    · rcases List.mem_append.mp ha with h | h
      · exact hm1 a h
      · cases q : s.heap.get? a with
        | none => rfl
        | some o =>
          exfalso
          have hn := hm2 a h
          by_cases hr : a ∈ ρ
          · obtain ⟨ob, e⟩ := S2.mem (List.mem_append_left _ hr); rw [hn] at e; cases e
          · by_cases hP : a = B.P
            · subst hP; obtain ⟨ob, e⟩ := S2.tab.there; rw [hn] at e; cases e
            · by_cases hO : Own env a
              · obtain ⟨ob, e⟩ := (lk hk2').owned a hO; have hn' : h2.get? a = none := hn; rw [hn'] at e; cases e
              · have : h2.get? a = none := hn
                rw [keep1 a o q hr (np hP) hO] at this; cases this
    · refine k3 a o (keep1 a o ea na nP nO) (fun h => ?_) nP nO
      rcases List.mem_append.mp h with h | h
      · exact na h
      · rw [hm1 a h] at ea; cases ea
end
end Mine

end
section
open PySem PySem.W PySem.Calls PyProof.Rows
set_option maxRecDepth 100000
namespace Mine
open PySem.Builtin PySem.Builtin.Str

/-- a text, by its signs -/
def S (l : List Nat) : Str := ⟨l.toArray⟩

theorem S_cps (l : List Nat) : (S l).cps.toList = l := rfl
theorem S_of (x : Str) : x = S x.cps.toList := by cases x; simp [S]
theorem S_len (l : List Nat) : (S l).length = l.length := by simp [S, Str.length]
theorem S_app (l m : List Nat) : S l ++ S m = S (l ++ m) := by
  apply PySem.Str.ext'; rw [PySem.Str.cps_append]; simp [S]
theorem S_inj {l m : List Nat} (h : S l = S m) : l = m := by
  have := congrArg (fun x : Str => x.cps.toList) h
  simpa [S] using this
theorem S_beq (l m : List Nat) : (S l == S m) = decide (l = m) := by
  by_cases h : l = m
  · subst h; simp
  · have : ¬ S l = S m := fun e => h (S_inj e)
    simp [h, this]

theorem slice_idx (a b len : Nat) : strSliceIndices (some (a : Int)) (some (b : Int)) 1 len = (List.range (min b len - min a len)).map (fun k => min a len + k) := by
  have h1 : ¬ ((a : Int) < 0) := by omega
  have h2 : ¬ ((b : Int) < 0) := by omega
  by_cases hab : min a len ≤ min b len
  · have := StrLaws.strSliceIndices_plain (a := min a len) (b := min b len) (len := len) hab (Nat.min_le_right _ _)
    rw [← this]
    have h3 : ¬ (((min a len : Nat) : Int) < 0) := by omega
    have h4 : ¬ (((min b len : Nat) : Int) < 0) := by omega
    simp only [strSliceIndices, h1, h2, h3, h4, if_false, show ((1 : Int) > 0) = True from by simp, if_true]
    congr 1 <;> omega
  · have e : min b len - min a len = 0 := by omega
    rw [e]
    simp only [strSliceIndices, sliceRange, h1, h2, if_false, show ((1 : Int) > 0) = True from by simp, if_true]
    have : ¬ (max (0 : Int) (min (a : Int) (len : Int)) < max 0 (min (b : Int) (len : Int))) := by omega
    simp [this]

theorem slice_S2 (l : List Nat) (a b : Nat) : Txt.slice (S l) (some (a : Int)) (some (b : Int)) = S ((l.take b).drop a) := by
  have key : (strSliceIndices (some (a : Int)) (some (b : Int)) 1 (S l).length).filterMap ((S l).cps[·]?) = (l.take b).drop a := by
    rw [slice_idx, S_len]
    have h := StrLaws.picks l (min b l.length - min a l.length) (min a l.length)
    by_cases hab : min a l.length ≤ min b l.length
    · have h := h (by omega)
      have e : ((List.range (min b l.length - min a l.length)).map (fun k => min a l.length + k)).filterMap ((S l).cps[·]?) = (l.drop (min a l.length)).take (min b l.length - min a l.length) := by
        rw [← h]; simp [S]
      rw [e]
      by_cases ha : a ≤ l.length
      · rw [Nat.min_eq_left ha]
        by_cases hb : b ≤ l.length
        · rw [Nat.min_eq_left hb, List.drop_take]
        · rw [Nat.min_eq_right (by omega), List.take_of_length_le (l := l) (i := b) (by omega), List.take_of_length_le (by simp)]
      · have e1 : min a l.length = l.length := by omega
        rw [e1, List.drop_of_length_le (Nat.le_refl _), List.drop_of_length_le (i := a) (by simp; omega)]
        simp
    · have e : min b l.length - min a l.length = 0 := by omega
      rw [e]
      rw [List.drop_of_length_le (by simp; omega)]
      simp
  unfold Txt.slice
  by_cases hl : ((1 : Int) == 1 && (strSliceIndices (some (a : Int)) (some (b : Int)) 1 (S l).length).length == (S l).length) = true
  · rw [if_pos hl]
    simp at hl
    have h2 : ((l.take b).drop a).length = l.length := by
      rw [slice_idx, S_len] at hl
      simp at hl
      rw [List.length_drop, List.length_take]; omega
    have h3 : (l.take b).drop a = l := by
      have h4 : l.length = 0 ∨ a = 0 := by
        rw [List.length_drop, List.length_take] at h2; omega
      rcases h4 with h4 | h4
      · have : l = [] := List.length_eq_zero_iff.mp h4
        subst this; simp
      · subst h4
        rw [List.drop_zero] at h2 ⊢
        rw [List.length_take] at h2
        exact List.take_of_length_le (by omega)
    rw [h3]
  · rw [if_neg hl, key]; rfl
theorem slice_Sto (l : List Nat) (b : Nat) : Txt.slice (S l) none (some (b : Int)) = S (l.take b) := by
  have := slice_S2 l 0 b
  rw [List.drop_zero] at this
  rw [← this]
  unfold Txt.slice
  have e : strSliceIndices none (some (b : Int)) 1 (S l).length = strSliceIndices (some ((0 : Nat) : Int)) (some (b : Int)) 1 (S l).length := by
    simp only [strSliceIndices, show ((1 : Int) > 0) = True from by simp, if_true]
    congr 1
  rw [e]
/-- each c becomes z -/
def sub1 (c : Nat) (z : List Nat) (l : List Nat) : List Nat := l.flatMap fun k => if k = c then z else [k]

theorem sub1_free (c : Nat) (z : List Nat) : ∀ l : List Nat, c ∉ l → sub1 c z l = l
  | [], _ => rfl
  | k :: r, h => by
    have h1 : ¬ k = c := fun e => h (e ▸ .head _)
    have := sub1_free c z r fun m => h (.tail _ m)
    simp only [sub1, List.flatMap_cons, if_neg h1] at this ⊢
    rw [this]; rfl
theorem sub1_app (c : Nat) (z l m : List Nat) : sub1 c z (l ++ m) = sub1 c z l ++ sub1 c z m := by simp [sub1]
theorem sub1_join (c : Nat) (z : List Nat) : ∀ parts : List Str, (∀ p ∈ parts, c ∉ p.cps.toList) → sub1 c z (Str.join ⟨#[c]⟩ parts).cps.toList = (Str.join (S z) parts).cps.toList
  | [], _ => rfl
  | [p], h => sub1_free c z _ (h p (List.mem_singleton.mpr rfl))
  | p :: q :: r, h => by
    have ih := sub1_join c z (q :: r) fun a ha => h a (List.mem_cons_of_mem _ ha)
    show sub1 c z (p ++ ⟨#[c]⟩ ++ Str.join ⟨#[c]⟩ (q :: r)).cps.toList = (p ++ S z ++ Str.join (S z) (q :: r)).cps.toList
    simp only [PySem.Str.cps_append, Array.toList_append]
    rw [sub1_app, sub1_app, ih, sub1_free c z _ (h p (List.mem_cons_self ..))]
    show p.cps.toList ++ sub1 c z [c] ++ _ = _
    simp [sub1, S]
theorem replace_S (l z : List Nat) (c : Nat) : Txt.replace (S l) (S [c]) (S z) = S (sub1 c z l) := by
  have : (Txt.replace (S l) ⟨#[c]⟩ (S z)).cps.toList = sub1 c z l := by
    rw [StrLaws.replace_one, ← sub1_join c z _ (StrLaws.split_free (S l) c), StrLaws.join_split]; rfl
  rw [S_of (Txt.replace (S l) (S [c]) (S z))]
  exact congrArg S this

theorem in_S (l : List Nat) (c : Nat) : strIn (S [c]) (S l) = decide (c ∈ l) := StrLaws.found_one (S l) c

theorem sub1_len (c : Nat) (z l : List Nat) (hz : 1 ≤ z.length) : (sub1 c z l).length ≤ l.length * z.length := by
  induction l with
  | nil => simp [sub1]
  | cons k r ih =>
    simp only [sub1, List.flatMap_cons, List.length_append, List.length_cons] at ih ⊢
    have : (if k = c then z else [k]).length ≤ z.length := by split <;> simp <;> omega
    rw [Nat.add_mul]; omega

/-- texts, one after the other, with a sign between -/
def glue (sep : List Nat) : List (List Nat) → List Nat
  | [] => []
  | [x] => x
  | x :: y :: r => x ++ sep ++ glue sep (y :: r)
theorem join_S (sep : List Nat) : ∀ ls : List (List Nat), Str.join (S sep) (ls.map S) = S (glue sep ls)
  | [] => rfl
  | [x] => rfl
  | x :: y :: r => by
    have ih := join_S sep (y :: r)
    show S x ++ S sep ++ Str.join (S sep) ((y :: r).map S) = _
    rw [ih, S_app, S_app]; rfl

theorem txtjoin_S (sep : List Nat) (ls : List (List Nat)) : Txt.join (S sep) (ls.map S) = S (glue sep ls) := by
  show glued (S sep) (ls.map S) = _
  rw [StrLaws.glued_eq_join, join_S]

end Mine

end
section
open PySem PySem.W PySem.Calls PyProof.Rows
set_option maxRecDepth 100000
namespace Mine
open AutoSeq1 (wpAny_loadPart')
open MeetsSeq3 (plain_eq_loop entry_eq_loop)

/-- one list of numbers ahead of another -/
def ltI : List Int → List Int → Bool
  | [], [] => false
  | [], _ :: _ => true
  | _ :: _, [] => false
  | a :: x, b :: y => if a = b then ltI x y else decide (a < b)

theorem ne_of_beq_false {a b : Int} (h : (a == b) = false) : a ≠ b := fun e => by subst e; simp at h

theorem lt_loop (l b : Addr) (items items2 : Array Value) (n n2 : Nat) (k : Nat) : ∀ (i : Nat) (is js : List Int), items.size - i = k → i ≤ items.size → i ≤ items2.size → IntsAre (items.toList.drop i) is → IntsAre (items2.toList.drop i) js →
    Meets (Builtin.«list.__eq__.loop» ⟨[.ref l, .ref b, rawInt i, rawInt 0], []⟩)
      (fun _ R s => s.heap.get? l = some (listOf items n) ∧ s.heap.get? b = some (listOf items2 n2) ∧ R (.ok (.ret (.bool (ltI is js)))) s) := by
  induction k with
  | zero =>
    intro i is js hk hi hi' h1 h2 prog w A R s h
    obtain ⟨hp, g, d, tk, os⟩ := s; obtain ⟨hl, hb, h⟩ := h
    wp_walk using wpAny_loadPart' hl, wpAny_loadPart' hb
    have hi1 : items[((i : Nat) : Int).toNat]? = none := by simp; omega
    rw [hi1]
    have hd : items.toList.drop i = [] := by simp; omega
    rw [hd] at h1
    cases h1
    wp_walk using wpAny_loadPart' hl, wpAny_loadPart' hb
    show R (.ok (.ret (.bool (decide (items.size < items2.size))))) _
    have hs : items.size = i := by omega
    have hz : decide (items.size < items2.size) = ltI [] js := by
      have hlen := h2.length
      simp at hlen
      cases js with
      | nil => simp at hlen; simp [ltI]; omega
      | cons a r => simp at hlen; simp [ltI]; omega
    rw [hz]; exact h
  | succ k ih =>
    intro i is js hk hi hi' h1 h2 prog w A R s h
    obtain ⟨hp, g, d, tk, os⟩ := s; obtain ⟨hl, hb, h⟩ := h
    wp_walk using wpAny_loadPart' hl, wpAny_loadPart' hb
    have hlt : i < items.size := by omega
    have hi1 : items[((i : Nat) : Int).toNat]? = some items[i] := by simp [hlt]
    have hd : items.toList.drop i = items[i] :: items.toList.drop (i + 1) := by simp [List.drop_eq_getElem_cons, hlt]
    have hc : ((i : Int) + 1) = ((i + 1 : Nat) : Int) := by push_cast; rfl
    rw [hd] at h1
    rw [hi1]
    generalize hx : items[i] = x at *
    cases h1 with
    | @cons a t vs ns h1 =>
    by_cases hlt2 : i < items2.size
    · have hi2 : items2[((i : Nat) : Int).toNat]? = some items2[i] := by simp [hlt2]
      have hd2 : items2.toList.drop i = items2[i] :: items2.toList.drop (i + 1) := by simp [List.drop_eq_getElem_cons, hlt2]
      rw [hd2] at h2
      rw [hi2]
      generalize hy : items2[i] = y at *
      cases h2 with
      | @cons c u vs' ns' h2 =>
      refine wpAny_bind (wpAny_eqBool_int ?_)
      cases hb' : a == c with
      | true =>
        wp_walk
        rw [hc]
        refine ⟨plainId_quiet plain_eq_loop _, codeAny_builtin entry_eq_loop (by
          rw [Around.under_plainId plain_eq_loop _]
          refine ih (i + 1) ns ns' (by omega) (by omega) (by omega) h1 h2 prog w A R _ ⟨hl, hb, ?_⟩
          have e := eq_of_beq hb'
          subst e
          simpa [ltI] using h)⟩
      | false =>
        wp_walk using wpAny_loadPart' hl, wpAny_loadPart' hb
        rw [hi1, hi2]
        have e := ne_of_beq_false hb'
        have hR : R (.ok (.ret (.bool (decide (a < c))))) ⟨hp, g, d, tk, os⟩ := by
          have : ltI (a :: ns) (c :: ns') = decide (a < c) := by unfold ltI; rw [if_neg e]
          rw [← this]; exact h
        refine wpAny_bind (wpAny_lt_int ?_)
        wp_walk
        exact hR
    · have hi2 : items2[((i : Nat) : Int).toNat]? = none := by simp; omega
      rw [hi2]
      have hd2 : items2.toList.drop i = [] := by simp; omega
      rw [hd2] at h2
      cases h2
      wp_walk using wpAny_loadPart' hl, wpAny_loadPart' hb
      show R (.ok (.ret (.bool (decide (items.size < items2.size))))) _
      have hz : decide (items.size < items2.size) = ltI (a :: ns) [] := by
        unfold ltI; simp; omega
      rw [hz]; exact h

theorem list_lt (l b : Addr) (items items2 : Array Value) (n n2 : Nat) {is js : List Int} (h1 : IntsAre items.toList is) (h2 : IntsAre items2.toList js) :
    Meets (Builtin.«list.__lt__» ⟨[.ref l, .ref b], []⟩)
      (fun _ R s => s.heap.get? l = some (listOf items n) ∧ s.heap.get? b = some (listOf items2 n2) ∧ R (.ok (.ret (.bool (ltI is js)))) s) := by
  intro prog w A R s h
  obtain ⟨hp, g, d, tk, os⟩ := s; obtain ⟨hl, hb, h⟩ := h
  have f3 := AutoSeq1.sub_list_list
  wp_walk using wpAny_loadPart' hl, wpAny_loadPart' hb
  exact ⟨plainId_quiet plain_eq_loop _, codeAny_builtin entry_eq_loop (by
    rw [Around.under_plainId plain_eq_loop _]
    exact lt_loop l b items items2 n n2 _ 0 is js rfl (Nat.zero_le _) (Nat.zero_le _) (by simpa using h1) (by simpa using h2) prog w A R _ ⟨hl, hb, h⟩)⟩

theorem PW2.ltl {B : Wd} {n : Nat} {H : List O} {Q : V → List O → Prop} {j k : Nat} {vs ws : List V} {is js : List Int} (hj : H[j]? = some (.list vs)) (hk : H[k]? = some (.list ws)) (hi : intsOf vs = some is) (hi' : intsOf ws = some js) (q : Q (.bool (ltI is js)) H) :
    PW2 B n (compareOp .Lt) (.ref j) (.ref k) H Q := fun A E s ρ a' b' QQ hA S va vb kk => by
  obtain ⟨a, e, rfl⟩ := va; obtain ⟨b, e2, rfl⟩ := vb
  obtain ⟨vs', m, g, r, hl⟩ := S.list hj e
  obtain ⟨ws', m2, g2, r2, hl2⟩ := S.list hk e2
  exact richCompare_meets_room (op := .Lt) ⟨_, g, rfl⟩ ⟨_, g2, rfl⟩ F.slot_list_lt F.entry_list_lt (F.args_list_lt_2 _ _) (list_lt a b vs'.toArray ws'.toArray m m2 (r.intsOf hi) (r2.intsOf hi'))
    ⟨g, g2, show Value.bool (ltI is js) ≠ Value.notImplemented ∧ QQ (.bool (ltI is js)) s from ⟨(fun x => nomatch x), kk _ _ _ ρ _ q rfl S Step.refl⟩⟩ hA.units

theorem gt_loop (l b : Addr) (items items2 : Array Value) (n n2 : Nat) (k : Nat) : ∀ (i : Nat) (is js : List Int), items.size - i = k → i ≤ items.size → i ≤ items2.size → IntsAre (items.toList.drop i) is → IntsAre (items2.toList.drop i) js →
    Meets (Builtin.«list.__eq__.loop» ⟨[.ref l, .ref b, rawInt i, rawInt 4], []⟩)
      (fun _ R s => s.heap.get? l = some (listOf items n) ∧ s.heap.get? b = some (listOf items2 n2) ∧ R (.ok (.ret (.bool (ltI js is)))) s) := by
  induction k with
  | zero =>
    intro i is js hk hi hi' h1 h2 prog w A R s h
    obtain ⟨hp, g, d, tk, os⟩ := s; obtain ⟨hl, hb, h⟩ := h
    wp_walk using wpAny_loadPart' hl, wpAny_loadPart' hb
    have hi1 : items[((i : Nat) : Int).toNat]? = none := by simp; omega
    rw [hi1]
    have hd : items.toList.drop i = [] := by simp; omega
    rw [hd] at h1
    cases h1
    wp_walk using wpAny_loadPart' hl, wpAny_loadPart' hb
    show R (.ok (.ret (.bool (decide (items.size > items2.size))))) _
    have hs : items.size = i := by omega
    have hz : decide (items.size > items2.size) = ltI js [] := by
      have hlen := h2.length
      simp at hlen
      cases js with
      | nil => simp at hlen; simp [ltI]; omega
      | cons a r => simp at hlen; simp [ltI]; omega
    rw [hz]; exact h
  | succ k ih =>
    intro i is js hk hi hi' h1 h2 prog w A R s h
    obtain ⟨hp, g, d, tk, os⟩ := s; obtain ⟨hl, hb, h⟩ := h
    wp_walk using wpAny_loadPart' hl, wpAny_loadPart' hb
    have hlt : i < items.size := by omega
    have hi1 : items[((i : Nat) : Int).toNat]? = some items[i] := by simp [hlt]
    have hd : items.toList.drop i = items[i] :: items.toList.drop (i + 1) := by simp [List.drop_eq_getElem_cons, hlt]
    have hc : ((i : Int) + 1) = ((i + 1 : Nat) : Int) := by push_cast; rfl
    rw [hd] at h1
    rw [hi1]
    generalize hx : items[i] = x at *
    cases h1 with
    | @cons a t vs ns h1 =>
    by_cases hlt2 : i < items2.size
    · have hi2 : items2[((i : Nat) : Int).toNat]? = some items2[i] := by simp [hlt2]
      have hd2 : items2.toList.drop i = items2[i] :: items2.toList.drop (i + 1) := by simp [List.drop_eq_getElem_cons, hlt2]
      rw [hd2] at h2
      rw [hi2]
      generalize hy : items2[i] = y at *
      cases h2 with
      | @cons c u vs' ns' h2 =>
      refine wpAny_bind (wpAny_eqBool_int ?_)
      cases hb' : a == c with
      | true =>
        wp_walk
        rw [hc]
        refine ⟨plainId_quiet plain_eq_loop _, codeAny_builtin entry_eq_loop (by
          rw [Around.under_plainId plain_eq_loop _]
          refine ih (i + 1) ns ns' (by omega) (by omega) (by omega) h1 h2 prog w A R _ ⟨hl, hb, ?_⟩
          have e := eq_of_beq hb'
          subst e
          simpa [ltI] using h)⟩
      | false =>
        wp_walk using wpAny_loadPart' hl, wpAny_loadPart' hb
        rw [hi1, hi2]
        have e := ne_of_beq_false hb'
        have hR : R (.ok (.ret (.bool (decide (c < a))))) ⟨hp, g, d, tk, os⟩ := by
          have : ltI (c :: ns') (a :: ns) = decide (c < a) := by unfold ltI; rw [if_neg (Ne.symm e)]
          rw [← this]; exact h
        refine wpAny_bind (PySem.P.gt_int ?_)
        wp_walk
        exact hR
    · have hi2 : items2[((i : Nat) : Int).toNat]? = none := by simp; omega
      rw [hi2]
      have hd2 : items2.toList.drop i = [] := by simp; omega
      rw [hd2] at h2
      cases h2
      wp_walk using wpAny_loadPart' hl, wpAny_loadPart' hb
      show R (.ok (.ret (.bool (decide (items.size > items2.size))))) _
      have hz : decide (items.size > items2.size) = ltI [] (a :: ns) := by
        unfold ltI; simp; omega
      rw [hz]; exact h

theorem list_gt (l b : Addr) (items items2 : Array Value) (n n2 : Nat) {is js : List Int} (h1 : IntsAre items.toList is) (h2 : IntsAre items2.toList js) :
    Meets (Builtin.«list.__gt__» ⟨[.ref l, .ref b], []⟩)
      (fun _ R s => s.heap.get? l = some (listOf items n) ∧ s.heap.get? b = some (listOf items2 n2) ∧ R (.ok (.ret (.bool (ltI js is)))) s) := by
  intro prog w A R s h
  obtain ⟨hp, g, d, tk, os⟩ := s; obtain ⟨hl, hb, h⟩ := h
  have f3 := AutoSeq1.sub_list_list
  wp_walk using wpAny_loadPart' hl, wpAny_loadPart' hb
  exact ⟨plainId_quiet plain_eq_loop _, codeAny_builtin entry_eq_loop (by
    rw [Around.under_plainId plain_eq_loop _]
    exact gt_loop l b items items2 n n2 _ 0 is js rfl (Nat.zero_le _) (Nat.zero_le _) (by simpa using h1) (by simpa using h2) prog w A R _ ⟨hl, hb, h⟩)⟩

theorem PW2.gtl {B : Wd} {n : Nat} {H : List O} {Q : V → List O → Prop} {j k : Nat} {vs ws : List V} {is js : List Int} (hj : H[j]? = some (.list vs)) (hk : H[k]? = some (.list ws)) (hi : intsOf vs = some is) (hi' : intsOf ws = some js) (q : Q (.bool (ltI js is)) H) :
    PW2 B n (compareOp .Gt) (.ref j) (.ref k) H Q := fun A E s ρ a' b' QQ hA S va vb kk => by
  obtain ⟨a, e, rfl⟩ := va; obtain ⟨b, e2, rfl⟩ := vb
  obtain ⟨vs', m, g, r, hl⟩ := S.list hj e
  obtain ⟨ws', m2, g2, r2, hl2⟩ := S.list hk e2
  exact richCompare_meets_room (op := .Gt) ⟨_, g, rfl⟩ ⟨_, g2, rfl⟩ F.slot_list_gt F.entry_list_gt (F.args_list_gt_2 _ _) (list_gt a b vs'.toArray ws'.toArray m m2 (r.intsOf hi) (r2.intsOf hi'))
    ⟨g, g2, show Value.bool (ltI js is) ≠ Value.notImplemented ∧ QQ (.bool (ltI js is)) s from ⟨(fun x => nomatch x), kk _ _ _ ρ _ q rfl S Step.refl⟩⟩ hA.units
end Mine

end
section
open PySem PySem.W PySem.Calls PyProof.Rows
set_option maxRecDepth 100000
namespace Mine
section
variable {B : Wd} {n : Nat} {env : Env} {loc : Loc} {H : List O} {Q : V → List O → Prop}

theorem VRs.replicate {ρ : List Addr} {v v'} (h : VR ρ v v') : ∀ k, VRs ρ (List.replicate k v) (List.replicate k v')
  | 0 => .nil
  | k + 1 => .cons h (VRs.replicate h k)

theorem mul_raw {prog : Program} {w : World} {A : Around} {E : Value → Shared → Prop} {s : Shared} {l : Addr} {items : Array Value} {k : Nat} {x : Int} {u : Tok} {Q : Value → Shared → Prop}
    (hl : s.heap.get? l = some { cls := .type "list", dict := none, data := .seq items k, slots := #[] })
    (hlo : -(2 ^ 63 : Int) ≤ x) (hhi : x < 2 ^ 63) (hsz : items.size * x.toNat ≤ 2 ^ 24)
    (h : Q (.ref s.heap.objs.size) { s with heap := s.heap.push { cls := .type "list", data := .seq (List.foldl (fun x1 x2 => x1 ++ x2) #[] (List.replicate (if items.isEmpty = true then 0 else x.toNat) items)) } }) :
    wpAny (model prog w) A (binaryOp .Mult (.ref l) (.int x u)) Q E s :=
  wpAny_binaryOp_repeat_ref (T := "list") (U := "int") (by decide) ⟨_, hl, rfl⟩ (fun s' => typeIs_int s' x u) noFill_list_mul F.fills_int_mul F.slot_int_rmul repeat_list F.slot_int_index.lookup
    (call_meets F.slot_int_rmul (typeIs_int s x u) F.entry_int_rmul (F.args_int_rmul_2 _ _) (int___rmul___int_list x u l items k)
      ⟨hl, rfl, ⟨_, hl, rfl⟩, call_meets F.slot_list_mul ⟨_, hl, rfl⟩ F.entry_list_mul (F.args_list_mul_2 _ _)
        (AutoListH.list___mul___list_int_3 l items k x u (by simp [Builtin.List.listFitsIndex]; omega) (by omega) (by simp [Builtin.List.listTooLong, sizeLine]; omega))
        ⟨hl, h⟩⟩)

/-- [v] * x -/
theorem PW2.mull {k : Nat} {v : V} {x : Int} (c : Nat) (hx : x = (c : Int)) (hk : H[k]? = some (.list [v])) (hc : c ≤ 1000000) (q : Q (.ref H.length) (H ++ [.list (List.replicate c v)])) :
    PW2 B n (binaryOp .Mult) (.ref k) (.int x) H Q := fun A E s ρ a' b' QQ hA S va vb kk => by
  subst hx
  obtain ⟨a, e, rfl⟩ := va; obtain ⟨u, rfl⟩ := vb
  obtain ⟨vs', m, g, r, hl⟩ := S.list hk e
  obtain _ | ⟨vv, _ | _⟩ := r
  rename_i v'
  have hfold : List.foldl (fun x1 x2 => x1 ++ x2) #[] (List.replicate (if (#[v'] : Array Value).isEmpty = true then 0 else ((c : Int)).toNat) #[v']) = (List.replicate c v').toArray := by
    rw [if_neg (by simp), Int.toNat_natCast]
    have key : ∀ (c : Nat) (acc : Array Value), List.foldl (fun x1 x2 => x1 ++ x2) acc (List.replicate c #[v']) = acc ++ (List.replicate c v').toArray := by
      intro c
      induction c with
      | zero => intro acc; simp
      | succ c ih => intro acc; rw [List.replicate_succ, List.foldl_cons, ih, List.replicate_succ]; apply Array.toList_inj.mp; simp
    rw [key]; simp
  have h63 : (c : Int) < 2 ^ 63 := by have : (2 : Int) ^ 63 = 9223372036854775808 := rfl; omega
  have h64 : -(2 ^ 63 : Int) ≤ (c : Int) := by have : (2 : Int) ^ 63 = 9223372036854775808 := rfl; omega
  have h24 : (#[v'] : Array Value).size * ((c : Int)).toNat ≤ 2 ^ 24 := by rw [Int.toNat_natCast]; show 1 * c ≤ 16777216; omega
  refine mul_raw g h64 h63 h24 ?_
  have hkp : ∀ b o, s.heap.get? b = some o → (s.heap.push { cls := .type "list", data := .seq (List.replicate c v').toArray }).get? b = some o := fun _ _ e => Heap.get?_push_of_some _ e
  have fin := kk _ (.ref s.heap.objs.size) _ (ρ ++ [s.heap.objs.size]) { s with heap := s.heap.push { cls := .type "list", data := .seq (List.replicate c v').toArray } } q ⟨s.heap.objs.size, by rw [← S.len]; simp, rfl⟩ (S.more hkp S.toks no_new ⟨List.replicate c v', 0, by rw [Heap.get?_push_size _ rfl], (VRs.replicate vv c).mono⟩) (Step.more hkp no_new)
  rw [← hfold] at fin
  exact fin

theorem EW.neg {e : Expr} {pos : Pos} (h : EW B n env loc e H fun v H1 => ∃ x, v = .int x ∧ Q (.int (-x)) H1) : EW B n env loc (.UnaryOp .USub e pos) H Q := fun A E s ρ QQ hA S L kk =>
  wpAny_UnaryOp (h A E s ρ _ hA S L fun v v' H1 ρ1 s1 q vv S1 st1 => by
    obtain ⟨x, rfl, q⟩ := q
    obtain ⟨t, rfl⟩ := vv
    exact PySem.P.neg_int (kk _ _ _ ρ1 _ q ⟨_, rfl⟩ (S1.tok S1.ltok) (st1.trans S1 Step.tok)))

theorem PW2.itemNeg {value slice : Expr} {k : Nat} {vs : List V} {v : V} (hk : H[k]? = some (.list vs)) (h0 : 0 < vs.length) (hv : vs[vs.length - 1]? = some v) (q : Q v H)
    (hs : ∀ l u, subscripted slice false (.ref l) (.int (-1) u) = operate [.ref l, .int (-1) u] (getItem (.ref l) (.int (-1) u)) := by intro _ _; with_unfolding_all rfl) :
    PW2 B n (subscriptTail value slice) (.ref k) (.int (-1)) H Q := fun A E s ρ a' b' QQ hA S va vb kk => by
  obtain ⟨a, e, rfl⟩ := va; obtain ⟨u, rfl⟩ := vb
  obtain ⟨vs', m, g, r, hl⟩ := S.list hk e
  obtain ⟨v', hx, vv⟩ := r.get hv
  have hlen := r.length
  have hidx : ((-1 : Int) + (vs'.toArray.size : Int)).toNat = vs.length - 1 := by simp; omega
  exact subscriptTail_builtinR hl.typeIs slot_list_getitem.lookup (wpAny_getItem_list_neg (Q := fun r s' => r = v' ∧ QQ r s') hl (by omega) (by simp; omega) (by decide) (by rw [hidx]; simpa using hx) ⟨rfl, kk _ _ _ ρ _ q vv S Step.refl⟩) (hs _ _)
end

section
variable {B : Wd} {n : Nat} {env : Env} {loc : Loc} {H : List O} {Q : Fl → Loc → List O → Prop}
/-- mode, name = files[-1] -/
theorem ST.assignT {elts : List Expr} {c : Nat} {p pos : Pos} {value : Expr} (T : B.There) (h : EW B n env loc value H fun v H1 => AW B n env (.Tuple elts c p) v loc H1 fun loc' => Q .next loc' H1)
    (hs : swapsWithSole [.Tuple elts c p] value pos.line env = pure false := by rfl)
    (hw : swappedStores [.Tuple elts c p] value env = pure none := by rfl) :
    FW B n env (exec (.Assign [.Tuple elts c p] value pos) env) loc H Q := fun A E s ρ QQ hA S L kk =>
  Assign_Tuple (h A E s ρ _ hA S L fun v v' H1 ρ1 s1 q vv S1 st1 => q A E s1 ρ1 v' _ hA S1 (L.step st1) vv fun loc' s2 q2 S2 L2 st2 =>
    kk .next _ loc' H1 ρ1 s2 q2 rfl S2 L2 (st1.toX.trans S1 (L.step st1).owned (st2.wide fun a e => .inl e))) hs hw

/-- files[-1] = new -/
theorem ST.setNeg {o i value : Expr} {p pos : Pos} (T : B.There)
    (h : EW B n env loc value H fun v H1 => EW B n env loc o H1 fun ov H2 => EW B n env loc i H2 fun iv H3 => ∃ k vs, ov = .ref k ∧ iv = .int (-1) ∧ H3[k]? = some (.list vs) ∧ 0 < vs.length ∧ vs.length ≤ sizeLine ∧ Q .next loc (H3.set k (.list (vs.set (vs.length - 1) v))))
    (hs : swapsWith value (some (.Subscript o i p)) pos.line env = pure false := by rfl) : FW B n env (exec (.Assign [.Subscript o i p] value pos) env) loc H Q := fun A E s ρ QQ hA S L kk => by
  refine wpAny_Assign_Subscript (h A E s ρ _ hA S L fun v v' H1 ρ1 s1 q vv S1 st1 => q A E s1 ρ1 _ hA S1 (L.step st1) fun ov ov' H2 ρ2 s2 q2 vo S2 st2 => q2 A E s2 ρ2 _ hA S2 ((L.step st1).step st2) fun iv iv' H3 ρ3 s3 q3 vi S3 st3 => ?_) hs
  obtain ⟨k, vs, rfl, rfl, hk, h0, hsz, q⟩ := q3
  obtain ⟨a, e, rfl⟩ := st3.mono vo
  obtain ⟨t, rfl⟩ := vi
  obtain ⟨vs', m, g, r, hl⟩ := S3.list hk e
  have hz : vs.length < 2 ^ 63 := by have : sizeLine = 16777216 := rfl; omega
  have hlen := r.length
  have hidx : ((-1 : Int) + (vs'.toArray.size : Int)).toNat = vs.length - 1 := by simp; omega
  have st := (st1.trans S1 st2).trans S2 st3
  refine ki_setBack g (by omega) (by simp; omega) (by decide) ?_
  rw [hidx]
  have st4 : Step B ρ3 ρ3 s3 { s3 with heap := s3.heap.update a (Obj.mapSeq (·.setIfInBounds (vs.length - 1) v')) } := Step.set (List.mem_of_getElem? e) upd_keeps
  exact kk _ _ _ _ ρ3 _ q rfl (S3.upd T e g (ws' := vs'.set (vs.length - 1) v') (by simp) (r.set (st3.mono (st2.mono vv)) _)) ((L.step st).step st4) (st.trans S3 st4).toX
end

section
variable {B : Wd} {n : Nat} {env : Env} {loc : Loc} {H : List O}
theorem TW.and3 {a b c : Expr} {pos : Pos} {Q : Bool → List O → Prop} (h : TW B n env loc a H fun x H1 => cond x (TW B n env loc b H1 fun y H2 => cond y (TW B n env loc c H2 Q) (Q false H2)) (Q false H1)) : TW B n env loc (.BoolOp .And [a, b, c] pos) H Q :=
  fun A E s ρ QQ hA S L kk => by
    rw [arm_isTrue_BoolOp, arm_allTrue_cons]
    refine wpAny_bind (h A E s ρ _ hA S L fun x H1 ρ1 s1 q S1 st1 => ?_)
    cases x with
    | false => exact wpAny_pure (kk false H1 ρ1 s1 q S1 st1)
    | true =>
      show wpAny _ _ (allTrue .And [b, c] env) _ _ _
      rw [arm_allTrue_cons]
      refine wpAny_bind (q A E s1 ρ1 _ hA S1 (L.step st1) fun y H2 ρ2 s2 q2 S2 st2 => ?_)
      cases y with
      | false => exact wpAny_pure (kk false H2 ρ2 s2 q2 S2 (st1.trans S1 st2))
      | true =>
        show wpAny _ _ (allTrue .And [c] env) _ _ _
        rw [arm_allTrue_cons]
        refine wpAny_bind (q2 A E s2 ρ2 _ hA S2 ((L.step st1).step st2) fun y H3 ρ3 s3 q3 S3 st3 => ?_)
        cases y with
        | false => exact wpAny_pure (kk false H3 ρ3 s3 q3 S3 ((st1.trans S1 st2).trans S2 st3))
        | true => exact wpAny_pure (kk true H3 ρ3 s3 q3 S3 ((st1.trans S1 st2).trans S2 st3))

theorem CW.range1 {Q : V → List O → Prop} {b : Int} (q : Q (.ref H.length) (H ++ [.range 0 b])) : CW B n (.type "range") [.int b] H Q := fun A E s ρ vs' QQ hA S hv kk => by
  obtain _ | ⟨⟨t, rfl⟩, _ | _⟩ := hv
  have hk : ∀ t1 u1 v1 : Tok, ∀ b' o, s.heap.get? b' = some o → (s.heap.push { cls := .type "range", data := .fields #[.int 0 t1, .int b u1, .int 1 v1] }).get? b' = some o := fun _ _ _ _ _ e => Heap.get?_push_of_some _ e
  refine wpAny_with_toks S.toks (call_range_1 fun htk => ?_)
  exact kk _ _ _ (ρ ++ [s.heap.objs.size]) _ q ⟨_, by rw [← S.len]; simp, rfl⟩ (S.more (hk _ _ _) htk no_new ⟨_, _, _, IsRange.new ..⟩) (Step.more (hk _ _ _) no_new)
end
end Mine

end
section
open PySem PySem.W PySem.Calls PyProof.Rows
set_option maxRecDepth 100000
namespace Mine
section
variable {M : Model} {A : Around} {E : Value → Shared → Prop} {s₀ s : Shared} {cm : Str → Option Value} {env : Env}
theorem bind1 (f : Str × Value → PUnit → Sem (ForInStep PUnit)) (hf : ∀ n v u, f (n, v) u = (do storeName env n v; pure (.yield ⟨⟩))) (hk : env.scope.kind = .function) {x : Str} {v : Value} {Q : PUnit → Shared → Prop}
    (X : InCallC s₀ env.locals (fun _ => none) env.cells cm s) (hl : env.kindOf x = some .local) (h : ∀ s', InCallC s₀ env.locals (fun y => if y = x then some v else none) env.cells cm s' → 1 ≤ s'.toks → Q ⟨⟩ s') : wpAny M A (forIn [(x, v)] ⟨⟩ f) Q E s := by
  rw [List.forIn_cons, hf]
  refine wpAny_bind (wpAny_bind (wpAny_storeName_local hl X.toInCall.ns (fun h' hn' hs' => wpAny_pure ?_) (by rw [hk]; rfl)))
  show wpAny M A (forIn [] PUnit.unit f) Q E _
  rw [List.forIn_nil]
  refine wpAny_pure (h _ ⟨⟨?_, hn', fun b o e => ?_, X.toInCall.fresh⟩, fun k c hc => ?_, X.apart, X.above⟩ (Nat.le_add_left _ _))
  · obtain ⟨h₁, tk, rfl⟩ := X.toInCall.same
    exact ⟨h', _, rfl⟩
  · exact hs'.extBut b o (Nat.ne_of_lt (Nat.lt_of_lt_of_le (Heap.lt_size e) X.toInCall.fresh)) (X.toInCall.keep b o e)
  · exact (X.cell k c hc).sameBut hs' (Nat.ne_of_gt (X.above k c (mem_of_lookup hc)))

theorem newEnv1 {scope : Scope} {globals : Addr} {x : Str} {v : Value} {qual : Str} {func : Option Addr} {code : Value} {builtins : Addr} {Q : Env → Shared → Prop}
    (hk : scope.kind = .function) (hx : scope.names.lookup x = some .local)
    (hQ : ∀ env, env = newEnv scope s.heap.objs.size globals (cellsFrom (s.heap.objs.size + 1) scope.names []) qual func code none builtins →
      ∀ s', InCallC s env.locals (fun y => if y = x then some v else none) env.cells (fun _ => none) s' → 1 ≤ s'.toks → Q env s') :
    wpAny M A (newFunctionEnv scope globals [] [(x, v)] qual func code none builtins) Q E s := by
  simp only [newFunctionEnv, Option.isSome_none, Bool.false_eq_true, if_false]
  refine wpAny_bind (wpAny_alloc ?_)
  refine wpAny_bind (wpAny_layCells _ (fun name kind cells => by cases hkc : kind == NameKind.cell <;> simp [hkc]) _ _ _ _ ?_)
  have ok := cellsFrom_ok scope.names (s.heap.push { cls := .type "frame", data := .dict #[] }) (s.heap.objs.size + 1) [] ⟨fun _ _ hm => (nomatch hm), List.Pairwise.nil⟩ (by rw [Heap.size_push]; exact Nat.le_refl _)
  rw [Heap.size_push] at ok
  rw [show ({ s with heap := s.heap.push { cls := .type "frame", data := .dict #[] } } : Shared).heap.objs.size = s.heap.objs.size + 1 from Heap.size_push ..]
  refine wpAny_bind (bind1 (s₀ := s) (cm := fun _ => none) (env := newEnv scope s.heap.objs.size globals (cellsFrom (s.heap.objs.size + 1) scope.names []) qual func code none builtins)
    _ (fun _ _ _ => rfl) hk
    ⟨⟨⟨_, _, rfl⟩, (Heap.Ns.new s.heap (.type "frame")).keeps (pushCells_keeps _ _), fun b o e => pushCells_keeps _ _ b o (Heap.get?_push_of_some _ e), Nat.le_refl _⟩,
      fun n c hc => (ok.empty n c (mem_of_lookup hc)).1, ok.apart, fun n c hm => (ok.empty n c hm).2⟩
    hx fun s' X ht => wpAny_pure (hQ _ rfl s' X ht))
end

section
variable {B : Wd} {n : Nat} {H : List O} {Q : V → List O → Prop}
/-- a def of one parameter, with cells: its frame's first store takes a token -/
theorem CW.def2 {f : Addr} {x : Str} {body : List Stmt} {S : Scope} {v0 : V} (W : B.Ok) (T : B.There) (ht0 : B.t0 ≤ 1) (F : Fn B f [x] body S)
    (h : ∀ q cd L, FW B.tick n (fenv S q f cd L) (execs body (fenv S q f cd L)) (locOf [x] [v0]) H fun fl _ H' => ∃ v, fl = .ret v ∧ H' = H ∧ v.Closed H.length ∧ Q v H)
    (hk : S.names.lookup x = some .local) (hkind : S.kind = .function := by rfl) (hco : S.isCoroutine = false := by rfl) (hgen : S.isGenerator = false := by rfl) :
    CW B (n + 1) (.ref f) [v0] H Q := fun A E s ρ vs' QQ hA SS hv kk => by
  obtain ⟨⟨o, fd, ho, hd, hS, hbody, hclo, hglob, hbu, ⟨c, oc, cvs, t, hc1, hc2, hc3, hc4, hc5⟩, hbind⟩, hfP⟩ := F
  subst hS
  obtain _ | ⟨hv0, _ | _⟩ := hv
  rename_i v0'
  refine wpAny_call ?_
  refine codeAny_call_function hA.room (SS.keep _ _ ho (np hfP)) hd hco hgen hbody ⟨c, oc, cvs, t, hc1, SS.keep _ _ hc3 (np hc2), hc4, hc5⟩ ?_
  rw [hbind [v0'] rfl, hclo]
  refine wpAny_pure (newEnv1 hkind hk (fun env he s' X htk => ?_))
  have he' : env = fenv fd.scope (fd.qualname ++ ".<locals>.") f fd.code s.heap.objs.size := by
    rw [he, hglob, hbu]; rfl
  clear he
  subst he'
  refine ⟨W.nolimit.at fun o e => X.toInCall.keep _ _ (SS.keep _ _ e (np W.ps)), codeAny_func ?_⟩
  have fresh : ∀ a, s.heap.objs.size ≤ a → s.heap.get? a = none := fun a ha => Heap.get?_none_of_le ha
  have notin : ∀ a, s.heap.get? a = none → a ∉ ρ ∧ a ≠ B.P ∧ B.hb.get? a = none := fun a ha => by
    have hP : a ≠ B.P := fun e => by obtain ⟨ob, e'⟩ := SS.tab.there; rw [← e, ha] at e'; cases e'
    refine ⟨fun h => (by obtain ⟨ob, e⟩ := SS.mem h; rw [ha] at e; cases e), hP, ?_⟩
    cases q : B.hb.get? a with
    | none => rfl
    | some o => rw [SS.keep a o q (np hP)] at ha; cases ha
  obtain ⟨h1, tk1, hs'⟩ := X.toInCall.same
  have S' : SB B.tick ρ H s' := by
    have hk' := X.toInCall.keep
    subst hs'
    refine SB.tick ⟨fun a o e n => hk' _ _ (SS.keep a o e n), SS.fresh, SS.len, SS.nodup, fun k o a e e' => by have := (SS.objs k o a e e').at (more := []) (h' := h1) fun ob e => hk' _ _ e; simpa using this, SS.tab.keeps hk', SS.gens, SS.os, Nat.le_trans ht0 htk⟩ htk
  have L' : LocR B.tick (fenv fd.scope (fd.qualname ++ ".<locals>.") f fd.code s.heap.objs.size) (locOf [x] [v0]) ρ s'.heap := by
    obtain ⟨n1, n2, n3⟩ := notin _ (fresh _ (Nat.le_refl _))
    refine ⟨hkind, rfl, rfl, n1, n2, n3, fun y c e => ?_, fun y z c e e' => name_of_addr X.apart (mem_of_lookup e) (mem_of_lookup e'), _, X.toInCall.ns, fun y v e => ?_⟩
    · have hab := X.above y c (mem_of_lookup e)
      obtain ⟨m1, m2, m3⟩ := notin c (fresh _ (Nat.le_of_lt hab))
      exact ⟨m1, m2, Nat.ne_of_gt hab, m3, _, X.cell y c e⟩
    · have e : [(x, v0)].lookup y = some v := e
      rw [List.lookup_cons] at e
      by_cases hy : y = x
      · subst hy
        rw [beq_self_eq_true] at e
        cases e
        exact .inl ⟨hk, v0', if_pos rfl, hv0⟩
      · rw [beq_eq_false_iff_ne.mpr hy] at e
        cases e
  refine h _ _ _ _ _ s' ρ _ (hA.deeper) S' L' fun fl fl' loc' H' ρ' s'' q r S'' L'' st'' => ?_
  obtain ⟨v, rfl, rfl, hvc, q⟩ := q
  obtain ⟨v', rfl, hvv⟩ := r
  obtain ⟨⟨m, e, hm⟩, k⟩ := id st''
  have hml : m = [] := by
    have h1 := S''.len
    have h2 := SS.len
    rw [e, List.length_append] at h1
    exact List.length_eq_zero_iff.mp (by omega)
  subst hml
  rw [List.append_nil] at e
  subst e
  refine kk v _ H' _ s'' q hvv (S''.untick ht0) ⟨⟨[], by simp, by simp⟩, fun a o e na nP => ?_⟩
  refine k a o (X.toInCall.keep a o e) na nP ?_
  rintro (rfl | ⟨y, hc⟩)
  · have := fresh _ (Nat.le_refl s.heap.objs.size); rw [show (fenv fd.scope (fd.qualname ++ ".<locals>.") f fd.code s.heap.objs.size).locals = s.heap.objs.size from rfl, this] at e; cases e
  · have := fresh _ (Nat.le_of_lt (X.above y a (mem_of_lookup hc))); rw [this] at e; cases e
end
end Mine

end
section
open PySem PySem.W PySem.Calls PyProof.Rows
set_option maxRecDepth 100000
namespace Mine
abbrev pr := PySem.Challenge.pw_op0104_02
def joinB : List Stmt := (fnNth pr.main.body 2).1
def joinS : Scope := (fnNth pr.main.body 2).2
def quoteB : List Stmt := (fnNth pr.main.body 3).1
def quoteS : Scope := (fnNth pr.main.body 3).2
def ifmtB : List Stmt := (fnNth pr.main.body 0).1
def ifmtS : Scope := (fnNth pr.main.body 0).2
def fmodeB : List Stmt := (fnNth pr.main.body 1).1
def fmodeS : Scope := (fnNth pr.main.body 1).2
def esc3B : List Stmt := (fnNth pr.main.body 5).1
def esc3S : Scope := (fnNth pr.main.body 5).2
def esc0B : List Stmt := (fnNth pr.main.body 6).1
def esc0S : Scope := (fnNth pr.main.body 6).2
def esc2B : List Stmt := (fnNth pr.main.body 7).1
def esc2S : Scope := (fnNth pr.main.body 7).2
def esc4B : List Stmt := (fnNth pr.main.body 8).1
def esc4S : Scope := (fnNth pr.main.body 8).2
def esc1B : List Stmt := (fnNth pr.main.body 9).1
def esc1S : Scope := (fnNth pr.main.body 9).2

def Has (B : Wd) (name : Str) (names : List Str) (body : List Stmt) (S : Scope) : Prop := ∃ f, B.mg name = some (.ref f) ∧ Fn B f names body S

/-- what quote needs -/
structure TopQ (B : Wd) : Prop where
  ok : B.Ok
  there : B.There
  find : ∃ f p cd, B.mg "_find_unsafe" = some (.ref f) ∧ ReAt B.hb f p cd ∧ f ≠ B.P ∧ p ≠ B.P ∧ cd ≠ B.P
  quote : Has B "quote" ["s"] quoteB quoteS

theorem ReAt.callee {B : Wd} {f p cd : Addr} (R : ReAt B.hb f p cd) (h : f ≠ B.P) : Callee B (.ref f) := by
  obtain ⟨o, e, hc, hd⟩ := R.f
  exact .bound e hd hc h

def quoteL (l : List Nat) : List Nat := if l.length = 0 then [39, 39] else if l.any fun c => !safeCp c then [39] ++ sub1 39 [39, 34, 39, 34, 39] l ++ [39] else l

theorem quoteL_len (l : List Nat) : (quoteL l).length ≤ 5 * l.length + 2 := by
  unfold quoteL
  have := sub1_len 39 [39, 34, 39, 34, 39] l (by decide)
  split
  · simp
  · split
    · simp only [List.length_append, List.length_cons, List.length_nil] at this ⊢; omega
    · omega

set_option maxHeartbeats 1000000 in
theorem quote_walk {B : Wd} {n : Nat} {q : Str} {f : Addr} {cd : Value} {L : Addr} {H : List O} {l : List Nat} (T : TopQ B) (t0 : 1 ≤ B.t0) (hx : l.length ≤ 100000) :
    FW B n (fenv quoteS q f cd L) (execs quoteB (fenv quoteS q f cd L)) (locOf ["s"] [.str (S l)]) H fun fl _ H' => fl = .ret (.str (S (quoteL l))) ∧ H' = H := by
  obtain ⟨fa, p, cdd, hg, R, h1, h2, h3⟩ := T.find
  have hsl : sizeLine = 16777216 := rfl
  have hl := S_len l
  refine SW.cons (ST.ite (TW.not (TW.plain (EW.name rfl (TV.str (by rw [hl]; omega) ?_)))))
  rw [hl]
  by_cases h0 : l.length = 0
  · rw [h0]
    refine SW.cons (ST.ret (EW.cstr ⟨?_, rfl⟩))
    unfold quoteL; rw [if_pos h0]; rfl
  · rw [show ((l.length : Int) != 0) = true from bne_iff_ne.mpr (by omega)]
    refine SW.nil ?_
    refine SW.cons (ST.ite (TW.compare (EW.call T.ok (.top hg) (R.callee h1) (EWs.cons (EW.name rfl (EWs.nil (CW.search R h1 h2 h3 (show 0 < (S l).length by omega) (show (S l).length < 2 ^ 63 by omega) ⟨fun hu a => ?_, fun hu => ?_⟩)))))))
    · refine EW.cnone (PW2.isNoneExt (TV.bool ?_))
      refine SW.nil ?_
      refine SW.cons (ST.ret ?_)
      have hr := replace_S l [39, 34, 39, 34, 39] 39
      have hs5 := sub1_len 39 [39, 34, 39, 34, 39] l (by decide)
      simp only [List.length_cons, List.length_nil] at hs5
      refine EW.binop (EW.binop (EW.cstr (EW.replace t0 (EW.name rfl ⟨S l, rfl, by decide, ?_, ?_⟩))))
      · show (S l).length + ((S l).length + 1) * 5 ≤ _
        omega
      · rw [show Txt.replace (S l) (Str.ofString "'") (Str.ofString "'\"'\"'") = S (sub1 39 [39, 34, 39, 34, 39] l) from hr]
        rw [show (Str.ofString "'") = S [39] from rfl]
        refine PW2.adds (by rw [S_len, S_len, hsl]; simp only [List.length_cons, List.length_nil]; omega) (EW.cstr ?_)
        rw [S_app]
        refine PW2.adds (by rw [S_len, S_len, hsl]; simp only [List.length_append, List.length_cons, List.length_nil]; omega) ⟨?_, rfl⟩
        rw [S_app]
        have hu' : (l.any fun c => !safeCp c) = true := hu
        unfold quoteL; rw [if_neg h0, if_pos hu']
    · refine EW.cnone (PW2.isNone (TV.bool ?_))
      refine SW.cons (ST.ret (EW.name rfl ⟨?_, rfl⟩))
      have hu' : (l.any fun c => !safeCp c) = false := hu
      unfold quoteL; rw [if_neg h0, hu']; rfl

theorem TopQ.tick {B : Wd} (T : TopQ B) : TopQ B.tick := by
  obtain ⟨a, b, c, f, hf, F⟩ := T
  exact ⟨⟨a.g, a.b, a.nolimit, a.builtins, a.bmain, a.pg, a.pb, a.ps, a.pc⟩, ⟨b.c, b.P⟩, c, f, hf, F.tick⟩

theorem quote_call {B : Wd} {n : Nat} {H : List O} {l : List Nat} {f : Addr} (T : TopQ B) (ht : B.t0 ≤ 1) (hf : B.mg "quote" = some (.ref f)) (hx : l.length ≤ 100000) :
    CW B (n + 1) (.ref f) [.str (S l)] H fun v H' => v = .str (S (quoteL l)) ∧ H' = H := by
  obtain ⟨f', hf', F⟩ := T.quote
  rw [hf] at hf'; cases hf'
  refine CW.def1 T.ok T.there ht F rfl (fun q cd L => ?_) (by decide +kernel) (by decide +kernel)
  refine FW.mono (quote_walk T.tick (Nat.le_refl _) hx) fun fl _ H' h => ?_
  obtain ⟨rfl, rfl⟩ := h
  exact ⟨_, rfl, rfl, fun k e => (by cases e), rfl, rfl⟩

/-- the tables of filemode -/
def rows : List (List (Nat × Nat)) := [[(40960, 108), (49152, 115), (32768, 45), (24576, 98), (16384, 100), (8192, 99), (4096, 112)], [(256, 114)], [(128, 119)], [(2112, 115), (2048, 83), (64, 120)],
  [(32, 114)], [(16, 119)], [(1032, 115), (1024, 83), (8, 120)], [(4, 114)], [(2, 119)], [(513, 116), (512, 84), (1, 120)]]
def PairAt (B : Wd) (v : Value) (p : Nat × Nat) : Prop := ∃ a t u, v = .ref a ∧ B.hb.IsTuple a #[.int (p.1 : Int) t, .str (S [p.2]) u] ∧ a ≠ B.P
def RowAt (B : Wd) (v : Value) (r : List (Nat × Nat)) : Prop := ∃ a ws, v = .ref a ∧ B.hb.IsTuple a (List.toArray ws) ∧ a ≠ B.P ∧ ws.length = r.length ∧ ∀ (i : Nat) p, r[i]? = some p → ∃ w, ws[i]? = some w ∧ PairAt B w p
def TblAt (B : Wd) : Prop := ∃ t vs mm, B.mg "_filemode_table" = some (.ref t) ∧ B.hb.get? t = some { cls := .type "tuple", dict := none, data := .seq (List.toArray vs) mm, slots := #[] } ∧ t ≠ B.P ∧ vs.length = rows.length ∧ ∀ (i : Nat) r, rows[i]? = some r → ∃ v, vs[i]? = some v ∧ RowAt B v r

def signB : List Stmt := (fnNth pr.main.body 10).1
def signS : Scope := (fnNth pr.main.body 10).2
def bareB : List Stmt := (fnNth pr.main.body 11).1
def bareS : Scope := (fnNth pr.main.body 11).2
def fileB : List Stmt := (fnNth pr.main.body 12).1
def fileS : Scope := (fnNth pr.main.body 12).2
def rankB : List Stmt := (fnNth pr.main.body 13).1
def rankS : Scope := (fnNth pr.main.body 13).2
def widB : List Stmt := (fnNth pr.main.body 14).1
def widS : Scope := (fnNth pr.main.body 14).2
def alikB : List Stmt := (fnNth pr.main.body 15).1
def alikS : Scope := (fnNth pr.main.body 15).2
def placB : List Stmt := (fnNth pr.main.body 16).1
def placS : Scope := (fnNth pr.main.body 16).2
def commB : List Stmt := (fnNth pr.main.body 17).1
def commS : Scope := (fnNth pr.main.body 17).2
def wbyB : List Stmt := (fnNth pr.main.body 18).1
def wbyS : Scope := (fnNth pr.main.body 18).2
def lawB : List Stmt := (fnNth pr.main.body 19).1
def lawS : Scope := (fnNth pr.main.body 19).2

/-- the world of the law -/
structure Top (B : Wd) : Prop extends TopQ B where
  gr : B.gr = true
  gk : B.gk = fun g _ => AllBare g
  t0 : B.t0 = 1
  join : ∃ f, B.mg "join" = some (.ref f) ∧ Fn B f ["split_command"] joinB joinS ∧ ∀ o fd, B.hb.get? f = some o → o.data = .func fd → fd.code = .ref B.c
  ifmt : Has B "S_IFMT" ["mode"] ifmtB ifmtS
  fmode : Has B "filemode" ["mode"] fmodeB fmodeS
  esc0 : Has B "_escape_attrib" ["text"] esc0B esc0S
  esc1 : Has B "_escape_attrib_c14n" ["text"] esc1B esc1S
  esc2 : Has B "_escape_attrib_html" ["text"] esc2B esc2S
  esc3 : Has B "_escape_cdata" ["text"] esc3B esc3S
  esc4 : Has B "_escape_cdata_c14n" ["text"] esc4B esc4S
  tbl : TblAt B
  enu : Glob B "enumerate" (.type "enumerate")
  wby : Has B "_law_written_by" ["which", "line"] wbyB wbyS
  bi : ∀ x : Str, x ∈ ([Str.ofString "len", Str.ofString "sum", Str.ofString "chr", Str.ofString "ord", Str.ofString "min", Str.ofString "max"] : List Str) → B.mg x = none
  ran : B.mg "range" = none
  sign : Has B "_law_sign" ["x"] signB signS
  bare : Has B "_law_bare" ["word"] bareB bareS
  file : Has B "_law_files" ["numbers"] fileB fileS
  rank : Has B "_law_ranks" ["mode", "name", "spelled"] rankB rankS
  wid : Has B "_law_widths" ["mode", "name", "spelled"] widB widS
  alik : Has B "_law_alike" ["low", "high", "which"] alikB alikS
  plac : Has B "_law_place" ["one", "other", "widths", "which"] placB placS
  comm : Has B "_law_common" ["one", "other"] commB commS

/-- another base keeps what quote needs -/
theorem TopQ.still {B : Wd} (T : TopQ B) {h : Heap} {os g} (hk : ∀ a o, B.hb.get? a = some o → a ≠ B.P → h.get? a = some o) (hP : ∃ o, h.get? B.P = some o) : TopQ (B.still h os g) := by
  obtain ⟨W, Th, ⟨f, p, cd, hf, ⟨⟨o1, e1, r1⟩, ⟨o2, fs, e2, r2⟩, ⟨o3, it, m, e3, r3⟩⟩, h1, h2, h3⟩, fq, hq, F⟩ := T
  obtain ⟨bm, ob, b1, b2, b3, b4, b5, b6, b7⟩ := W.bmain
  obtain ⟨o, e⟩ := Th.c
  refine ⟨⟨W.g.at' fun o e => hk _ o e W.pg, W.b.at' fun o e => hk _ o e W.pb, W.nolimit.at fun o e => hk _ o e W.ps, W.builtins, ⟨bm, ob, b1, b2, hk _ _ b3 b7, b4, b5, b6, b7⟩, W.pg, W.pb, W.ps, W.pc⟩,
    ⟨⟨o, hk _ _ e W.pc⟩, hP⟩, ⟨f, p, cd, hf, ⟨⟨o1, hk _ _ e1 h1, r1⟩, ⟨o2, fs, hk _ _ e2 h2, r2⟩, ⟨o3, it, m, hk _ _ e3 h3, r3⟩⟩, h1, h2, h3⟩, fq, hq, ?_, F.p⟩
  obtain ⟨⟨oo, fd, a1, a2, a3, a4, a5, a6, a7, ⟨c, oc, vs, t, c1, c2, c3, c4⟩, a9⟩, hFp⟩ := F
  exact ⟨oo, fd, hk _ _ a1 hFp, a2, a3, a4, a5, a6, a7, ⟨c, oc, vs, t, c1, c2, hk _ _ c3 c2, c4⟩, a9⟩

theorem strsOf_S : ∀ ls : List (List Nat), strsOf (ls.map fun l => V.str (S l)) = some (ls.map S)
  | [] => rfl
  | l :: r => by
    have := strsOf_S r
    simp only [List.map_cons]
    unfold strsOf
    rw [this]; rfl

set_option maxHeartbeats 1000000 in
theorem join_call {B : Wd} {n : Nat} {H : List O} {ls : List (List Nat)} {k : Nat} {f : Addr} (T : Top B) (hf : B.mg "join" = some (.ref f)) (hk : H[k]? = some (.list (ls.map fun l => V.str (S l)))) (hx : ∀ l ∈ ls, l.length ≤ 10000) (hn : ls.length ≤ 100) :
    CW B (n + 3) (.ref f) [.ref k] H fun v H' => v = .str (S (glue [32] (ls.map quoteL))) ∧ H' = H := by
  obtain ⟨f', hf', F, hcode⟩ := T.join
  rw [hf] at hf'; cases hf'
  refine CW.def T.ok T.there F rfl (fun q cd L hcd => ?_) (by decide +kernel)
  obtain ⟨o, fd, ho, hd, rfl⟩ := hcd
  have hc := hcode o fd ho hd
  obtain ⟨fq, hq, Fq⟩ := T.quote
  have hlen : ∀ y ∈ (ls.map S).map (fun z => S (quoteL z.cps.toList)), y.length ≤ 50002 := fun y hy => by
    simp only [List.map_map, List.mem_map, Function.comp] at hy
    obtain ⟨l, hl, rfl⟩ := hy
    rw [S_len, S_cps]
    have := quoteL_len l
    have := hx l hl
    omega
  refine SW.cons (ST.ret (EW.joinGen (F := fun z => S (quoteL z.cps.toList)) (xs := ls.map S) (m := n + 1) T.ok T.there T.gr T.gk hc hq Fq.callee (fun h os g hkk hP z hz => ?_) (Nat.le_refl _) rfl hk (strsOf_S ls) ?_ ?_ ?_))
  · simp only [List.mem_map] at hz
    obtain ⟨l, hl, rfl⟩ := hz
    have := hx l hl
    exact quote_call (T.toTopQ.still hkk hP) (Nat.zero_le _) hq (by omega)
  · rw [List.length_map]; have : sizeLine = 16777216 := rfl; omega
  · unfold JoinOk
    have := StrLaws.joinFits (sep := Str.ofString " ") hlen (by
      simp only [List.length_map]; have : (Str.ofString " ").length = 1 := rfl
      rw [this]; omega)
    rw [this]; rfl
  · refine ⟨_, H, [], rfl, by simp, Nat.le_refl _, fun h => h, fun k e => (by cases e), ?_, rfl⟩
    have : (ls.map S).map (fun z => S (quoteL z.cps.toList)) = (ls.map quoteL).map S := by simp [Function.comp_def, S_cps]
    rw [this, show (Str.ofString " ") = S [32] from rfl, txtjoin_S]
end Mine

end
section
open PySem PySem.W PySem.Calls PyProof.Rows
set_option maxRecDepth 100000
namespace Mine

/-- a sign, by a table -/
def tabF (t : List (Nat × List Nat)) (k : Nat) : List Nat := match t.lookup k with | some z => z | none => [k]
def mapT (t : List (Nat × List Nat)) (l : List Nat) : List Nat := l.flatMap (tabF t)

theorem sub1_tab {t : List (Nat × List Nat)} {c : Nat} {z : List Nat} (h1 : t.lookup c = none) (h2 : ∀ p ∈ t, c ∉ p.2) (k : Nat) : sub1 c z (tabF t k) = tabF (t ++ [(c, z)]) k := by
  unfold tabF
  rw [List.lookup_append]
  cases hk : t.lookup k with
  | some y =>
    have hm : ∃ p ∈ t, p.2 = y := by
      clear h1 h2
      induction t with
      | nil => cases hk
      | cons p r ih =>
        rw [List.lookup_cons] at hk
        cases hp : k == p.1 with
        | true => rw [hp] at hk; cases hk; exact ⟨p, .head _, rfl⟩
        | false => rw [hp] at hk; obtain ⟨q, hq, e⟩ := ih hk; exact ⟨q, .tail _ hq, e⟩
    obtain ⟨p, hp, rfl⟩ := hm
    exact sub1_free c z _ (h2 p hp)
  | none =>
    show sub1 c z [k] = match List.lookup k [(c, z)] with | some z => z | none => [k]
    rw [List.lookup_cons]
    by_cases h : k = c
    · subst h; simp [sub1]
    · have : (k == c) = false := by simpa using h
      rw [this]
      simp [sub1, h]
theorem sub1_mapT {t : List (Nat × List Nat)} {c : Nat} {z : List Nat} (h1 : t.lookup c = none) (h2 : ∀ p ∈ t, c ∉ p.2) (l : List Nat) : sub1 c z (mapT t l) = mapT (t ++ [(c, z)]) l := by
  unfold mapT
  induction l with
  | nil => rfl
  | cons k r ih => rw [List.flatMap_cons, List.flatMap_cons, sub1_app, ih, sub1_tab h1 h2]
theorem tabF_len {t : List (Nat × List Nat)} (h : ∀ p ∈ t, p.2.length ≤ 6) (k : Nat) : (tabF t k).length ≤ 6 := by
  unfold tabF
  cases hk : t.lookup k with
  | none => simp
  | some y =>
    induction t with
    | nil => cases hk
    | cons p r ih =>
      rw [List.lookup_cons] at hk
      cases hp : k == p.1 with
      | true => rw [hp] at hk; cases hk; exact h p (.head _)
      | false => rw [hp] at hk; exact ih (fun q hq => h q (.tail _ hq)) hk
theorem mapT_len {t : List (Nat × List Nat)} (h : ∀ p ∈ t, p.2.length ≤ 6) (l : List Nat) : (mapT t l).length ≤ 6 * l.length := by
  unfold mapT
  induction l with
  | nil => simp
  | cons k r ih =>
    rw [List.flatMap_cons, List.length_append, List.length_cons]
    have := tabF_len h k
    omega
theorem mapT_nil (l : List Nat) : mapT [] l = l := by
  unfold mapT
  induction l with
  | nil => rfl
  | cons k r ih => rw [List.flatMap_cons, ih]; rfl

def okT (t : List (Nat × List Nat)) (c : Nat) (z : List Nat) : Bool := t.lookup c == none && t.all (fun p => !p.2.contains c && p.2.length ≤ 6) && decide (1 ≤ z.length) && decide (z.length ≤ 6)

theorem upd_same {loc : Loc} {x : Str} {v : V} (h : loc x = some v) : upd loc x v = loc := by
  funext y; unfold upd
  by_cases hy : y = x
  · subst hy; rw [if_pos rfl, h]
  · rw [if_neg hy]

/-- if 'c' in text: text = text.replace('c', z) -/
theorem ST.esc {B : Wd} {n : Nat} {env : Env} {loc : Loc} {H : List O} {Q : Fl → Loc → List O → Prop} {x y z : Str} {k1 k2 k3 : Nat} {p1 p2 p3 p4 p5 p6 p7 p8 p9 pos ipos : Pos} (T : B.There) (ht : 1 ≤ B.t0) (t : List (Nat × List Nat)) (c : Nat) (zl l : List Nat)
    (hy : y = S [c]) (hz : z = S zl) (hyz : (y == z) = false) (hok : okT t c zl = true) (hx : loc x = some (.str (S (mapT t l)))) (hl : l.length ≤ 100000) (q : Q .next (upd loc x (.str (S (mapT (t ++ [(c, zl)]) l)))) H)
    (hk : env.kindOf x = some .local := by rfl) (hd : (x == ("__debug__" : Str)) = false := by decide) (hcd : (x == ("__classdict__" : Str)) = false := by decide) (hline : (p6.endLine == p9.line) = true := by rfl) :
    FW B n env (exec (.If (.Compare (.Constant (.str y) k1 p1) [.In] [.Name x p2] p3) [.Assign [.Name x p4] (.Call (.Attribute (.Name x p5) (Str.ofString "replace") p6) [.Constant (.str y) k2 p7, .Constant (.str z) k3 p8] [] p9) pos] [] ipos) env) loc H Q := by
  simp only [okT, Bool.and_eq_true, beq_iff_eq, decide_eq_true_eq, List.all_eq_true] at hok
  obtain ⟨⟨⟨o1, o2⟩, o3⟩, o4⟩ := hok
  have o2a : ∀ p ∈ t, c ∉ p.2 := fun p hp h => by have := (o2 p hp).1; simp [h] at this
  have o2b : ∀ p ∈ t, p.2.length ≤ 6 := fun p hp => (o2 p hp).2
  have hlen := mapT_len o2b l
  refine ST.ite (TW.compare (EW.cstr (EW.name hx (PW2.ins (TV.bool ?_)) hd hcd)))
  subst hy hz
  rw [in_S]
  rw [← sub1_mapT o1 o2a] at q
  by_cases hc : c ∈ mapT t l
  · rw [decide_eq_true hc]
    refine SW.cons (ST.assign T (EW.replace ht (EW.name hx ⟨S (mapT t l), rfl, hyz, ?_, ?_⟩ hd hcd) rfl hline) hk)
    · rw [S_len, S_len]
      have : ((mapT t l).length + 1) * zl.length ≤ ((mapT t l).length + 1) * 6 := Nat.mul_le_mul_left _ o4
      omega
    · rw [replace_S]; exact SW.nil q
  · rw [decide_eq_false hc]
    refine SW.nil ?_
    rw [sub1_free c zl _ hc, upd_same hx] at q
    exact q

def amp : Nat × List Nat := (38, [38, 97, 109, 112, 59])
def ltt : Nat × List Nat := (60, [38, 108, 116, 59])
def gtt : Nat × List Nat := (62, [38, 103, 116, 59])
def quot : Nat × List Nat := (34, [38, 113, 117, 111, 116, 59])
/-- the five tables -/
def tabOf : Nat → List (Nat × List Nat)
  | 0 => [amp, ltt, gtt, quot, (13, [38, 35, 49, 51, 59]), (10, [38, 35, 49, 48, 59]), (9, [38, 35, 48, 57, 59])]
  | 1 => [amp, ltt, quot, (9, [38, 35, 120, 57, 59]), (10, [38, 35, 120, 65, 59]), (13, [38, 35, 120, 68, 59])]
  | 2 => [amp, gtt, quot]
  | 3 => [amp, ltt, gtt]
  | _ => [amp, ltt, gtt, (13, [38, 35, 120, 68, 59])]

set_option maxHeartbeats 2000000 in
theorem esc0_call {B : Wd} {n : Nat} {H : List O} {l : List Nat} {f : Addr} (T : Top B) (hf : B.mg "_escape_attrib" = some (.ref f)) (hx : l.length ≤ 100000) :
    CW B (n + 1) (.ref f) [.str (S l)] H fun v H' => v = .str (S (mapT (tabOf 0) l)) ∧ H' = H := by
  obtain ⟨f', hf', F⟩ := T.esc0
  rw [hf] at hf'; cases hf'
  have ht : 1 ≤ B.t0 := Nat.le_of_eq T.t0.symm
  refine CW.def T.ok T.there F rfl (fun q cd L _ => ?_) (by decide +kernel)
  rw [show l = mapT [] l from (mapT_nil l).symm]
  refine SW.cons (ST.tryOk (SW.cons (ST.esc T.there ht [] 38 amp.2 l rfl rfl (by decide) (by decide) rfl hx ?_)))
  refine SW.cons (ST.esc T.there ht [amp] 60 ltt.2 l rfl rfl (by decide) (by decide) rfl hx ?_)
  refine SW.cons (ST.esc T.there ht [amp, ltt] 62 gtt.2 l rfl rfl (by decide) (by decide) rfl hx ?_)
  refine SW.cons (ST.esc T.there ht [amp, ltt, gtt] 34 quot.2 l rfl rfl (by decide) (by decide) rfl hx ?_)
  refine SW.cons (ST.esc T.there ht [amp, ltt, gtt, quot] 13 [38, 35, 49, 51, 59] l rfl rfl (by decide) (by decide) rfl hx ?_)
  refine SW.cons (ST.esc T.there ht [amp, ltt, gtt, quot, (13, [38, 35, 49, 51, 59])] 10 [38, 35, 49, 48, 59] l rfl rfl (by decide) (by decide) rfl hx ?_)
  refine SW.cons (ST.esc T.there ht [amp, ltt, gtt, quot, (13, [38, 35, 49, 51, 59]), (10, [38, 35, 49, 48, 59])] 9 [38, 35, 48, 57, 59] l rfl rfl (by decide) (by decide) rfl hx ?_)
  refine SW.cons (ST.ret (EW.name rfl ?_))
  exact ⟨_, H, [], rfl, by simp, Nat.le_refl _, fun h => h, fun k e => (by cases e), by rw [mapT_nil]; rfl, rfl⟩

set_option maxHeartbeats 2000000 in
theorem esc1_call {B : Wd} {n : Nat} {H : List O} {l : List Nat} {f : Addr} (T : Top B) (hf : B.mg "_escape_attrib_c14n" = some (.ref f)) (hx : l.length ≤ 100000) :
    CW B (n + 1) (.ref f) [.str (S l)] H fun v H' => v = .str (S (mapT (tabOf 1) l)) ∧ H' = H := by
  obtain ⟨f', hf', F⟩ := T.esc1
  rw [hf] at hf'; cases hf'
  have ht : 1 ≤ B.t0 := Nat.le_of_eq T.t0.symm
  refine CW.def T.ok T.there F rfl (fun q cd L _ => ?_) (by decide +kernel)
  rw [show l = mapT [] l from (mapT_nil l).symm]
  refine SW.cons (ST.tryOk (SW.cons (ST.esc T.there ht [] 38 amp.2 l rfl rfl (by decide) (by decide) rfl hx ?_)))
  refine SW.cons (ST.esc T.there ht [amp] 60 ltt.2 l rfl rfl (by decide) (by decide) rfl hx ?_)
  refine SW.cons (ST.esc T.there ht [amp, ltt] 34 quot.2 l rfl rfl (by decide) (by decide) rfl hx ?_)
  refine SW.cons (ST.esc T.there ht [amp, ltt, quot] 9 [38, 35, 120, 57, 59] l rfl rfl (by decide) (by decide) rfl hx ?_)
  refine SW.cons (ST.esc T.there ht [amp, ltt, quot, (9, [38, 35, 120, 57, 59])] 10 [38, 35, 120, 65, 59] l rfl rfl (by decide) (by decide) rfl hx ?_)
  refine SW.cons (ST.esc T.there ht [amp, ltt, quot, (9, [38, 35, 120, 57, 59]), (10, [38, 35, 120, 65, 59])] 13 [38, 35, 120, 68, 59] l rfl rfl (by decide) (by decide) rfl hx ?_)
  refine SW.cons (ST.ret (EW.name rfl ?_))
  exact ⟨_, H, [], rfl, by simp, Nat.le_refl _, fun h => h, fun k e => (by cases e), by rw [mapT_nil]; rfl, rfl⟩

set_option maxHeartbeats 2000000 in
theorem esc2_call {B : Wd} {n : Nat} {H : List O} {l : List Nat} {f : Addr} (T : Top B) (hf : B.mg "_escape_attrib_html" = some (.ref f)) (hx : l.length ≤ 100000) :
    CW B (n + 1) (.ref f) [.str (S l)] H fun v H' => v = .str (S (mapT (tabOf 2) l)) ∧ H' = H := by
  obtain ⟨f', hf', F⟩ := T.esc2
  rw [hf] at hf'; cases hf'
  have ht : 1 ≤ B.t0 := Nat.le_of_eq T.t0.symm
  refine CW.def T.ok T.there F rfl (fun q cd L _ => ?_) (by decide +kernel)
  rw [show l = mapT [] l from (mapT_nil l).symm]
  refine SW.cons (ST.tryOk (SW.cons (ST.esc T.there ht [] 38 amp.2 l rfl rfl (by decide) (by decide) rfl hx ?_)))
  refine SW.cons (ST.esc T.there ht [amp] 62 gtt.2 l rfl rfl (by decide) (by decide) rfl hx ?_)
  refine SW.cons (ST.esc T.there ht [amp, gtt] 34 quot.2 l rfl rfl (by decide) (by decide) rfl hx ?_)
  refine SW.cons (ST.ret (EW.name rfl ?_))
  exact ⟨_, H, [], rfl, by simp, Nat.le_refl _, fun h => h, fun k e => (by cases e), by rw [mapT_nil]; rfl, rfl⟩

set_option maxHeartbeats 2000000 in
theorem esc3_call {B : Wd} {n : Nat} {H : List O} {l : List Nat} {f : Addr} (T : Top B) (hf : B.mg "_escape_cdata" = some (.ref f)) (hx : l.length ≤ 100000) :
    CW B (n + 1) (.ref f) [.str (S l)] H fun v H' => v = .str (S (mapT (tabOf 3) l)) ∧ H' = H := by
  obtain ⟨f', hf', F⟩ := T.esc3
  rw [hf] at hf'; cases hf'
  have ht : 1 ≤ B.t0 := Nat.le_of_eq T.t0.symm
  refine CW.def T.ok T.there F rfl (fun q cd L _ => ?_) (by decide +kernel)
  rw [show l = mapT [] l from (mapT_nil l).symm]
  refine SW.cons (ST.tryOk (SW.cons (ST.esc T.there ht [] 38 amp.2 l rfl rfl (by decide) (by decide) rfl hx ?_)))
  refine SW.cons (ST.esc T.there ht [amp] 60 ltt.2 l rfl rfl (by decide) (by decide) rfl hx ?_)
  refine SW.cons (ST.esc T.there ht [amp, ltt] 62 gtt.2 l rfl rfl (by decide) (by decide) rfl hx ?_)
  refine SW.cons (ST.ret (EW.name rfl ?_))
  exact ⟨_, H, [], rfl, by simp, Nat.le_refl _, fun h => h, fun k e => (by cases e), by rw [mapT_nil]; rfl, rfl⟩

set_option maxHeartbeats 2000000 in
theorem esc4_call {B : Wd} {n : Nat} {H : List O} {l : List Nat} {f : Addr} (T : Top B) (hf : B.mg "_escape_cdata_c14n" = some (.ref f)) (hx : l.length ≤ 100000) :
    CW B (n + 1) (.ref f) [.str (S l)] H fun v H' => v = .str (S (mapT (tabOf 4) l)) ∧ H' = H := by
  obtain ⟨f', hf', F⟩ := T.esc4
  rw [hf] at hf'; cases hf'
  have ht : 1 ≤ B.t0 := Nat.le_of_eq T.t0.symm
  refine CW.def T.ok T.there F rfl (fun q cd L _ => ?_) (by decide +kernel)
  rw [show l = mapT [] l from (mapT_nil l).symm]
  refine SW.cons (ST.tryOk (SW.cons (ST.esc T.there ht [] 38 amp.2 l rfl rfl (by decide) (by decide) rfl hx ?_)))
  refine SW.cons (ST.esc T.there ht [amp] 60 ltt.2 l rfl rfl (by decide) (by decide) rfl hx ?_)
  refine SW.cons (ST.esc T.there ht [amp, ltt] 62 gtt.2 l rfl rfl (by decide) (by decide) rfl hx ?_)
  refine SW.cons (ST.esc T.there ht [amp, ltt, gtt] 13 [38, 35, 120, 68, 59] l rfl rfl (by decide) (by decide) rfl hx ?_)
  refine SW.cons (ST.ret (EW.name rfl ?_))
  exact ⟨_, H, [], rfl, by simp, Nat.le_refl _, fun h => h, fun k e => (by cases e), by rw [mapT_nil]; rfl, rfl⟩

end Mine

end
section
open PySem PySem.W PySem.Calls PyProof.Rows
set_option maxRecDepth 100000
namespace Mine

theorem ret_pure {H H' : List O} {Q : V → List O → Prop} {v : V} (hv : ∀ k, v ≠ .ref k) (hH : ∃ G, H' = H ++ G) (q : Q v H) :
    ∃ u H2 G, (match Fl.ret v with | .ret u => u | _ => .none) = u ∧ H' = H2 ++ G ∧ H.length ≤ H2.length ∧ ((∀ o ∈ H, o.Closed H.length) → ∀ o ∈ H2, o.Closed H2.length) ∧ u.Closed H2.length ∧ Q u H2 := by
  obtain ⟨G, hG⟩ := hH
  exact ⟨v, H, G, rfl, hG, Nat.le_refl _, fun h => h, fun k e => absurd e (hv k), q⟩

theorem beq_cast (a b : Nat) : ((a : Int) == (b : Int)) = (a == b) := by
  by_cases h : a = b
  · subst h; simp
  · rw [beq_eq_false_iff_ne.mpr h, beq_eq_false_iff_ne.mpr (show (a : Int) ≠ b by omega)]

theorem band_nat (x y : Nat) : Builtin.bitAnd (x : Int) (y : Int) = ((x &&& y : Nat) : Int) := rfl

theorem ifmt_call {B : Wd} {n : Nat} {H : List O} {m : Nat} {f : Addr} (T : Top B) (hf : B.mg "S_IFMT" = some (.ref f)) :
    CW B (n + 1) (.ref f) [.int m] H fun v H' => v = .int ((m &&& 61440 : Nat) : Int) ∧ H' = H := by
  obtain ⟨f', hf', F⟩ := T.ifmt
  rw [hf] at hf'; cases hf'
  refine CW.def T.ok T.there F rfl (fun q cd L _ => ?_) (by decide +kernel)
  refine SW.cons (ST.ret (EW.binop (EW.name rfl (EW.cint (PW2.band ?_)))))
  exact ret_pure (fun k e => by cases e) ⟨[], by simp⟩ ⟨rfl, rfl⟩

def hit (i m : Nat) (p : Nat × Nat) : Bool := if i = 0 then m &&& 61440 == p.1 else m &&& p.1 == p.1
def rowCh (i m : Nat) (r : List (Nat × Nat)) : Nat := match r.find? (hit i m) with | some p => p.2 | none => if i = 0 then 63 else 45
def fmL (m : Nat) : List Nat := (rows.zipIdx).map fun x => rowCh x.2 m x.1

def extOf : Value → V
  | .ref a => .ext a
  | _ => .none
theorem exts_rel : ∀ (vs : List Value), (∀ v ∈ vs, ∃ a, v = Value.ref a) → VRs [] (vs.map extOf) vs
  | [], _ => .nil
  | v :: r, h => by
    obtain ⟨a, rfl⟩ := h v (.head _)
    exact .cons rfl (exts_rel r fun u hu => h u (.tail _ hu))

def chs (l : List Nat) : List V := l.map fun c => V.str (S [c])
theorem set_last (H : List O) (o o' : O) : (H ++ [o]).set H.length o' = H ++ [o'] := by simp
theorem get_last (H : List O) (o : O) : (H ++ [o])[H.length]? = some o := by simp

theorem fmL_take {i m : Nat} {r : List (Nat × Nat)} (h : rows[i]? = some r) : (fmL m).take (i + 1) = (fmL m).take i ++ [rowCh i m r] := by
  have : (fmL m)[i]? = some (rowCh i m r) := by simp [fmL, List.getElem?_zipIdx, h]
  rw [List.take_add_one, this]; rfl

theorem strsOf_chs (l : List Nat) : strsOf (chs l) = some (l.map fun c => S [c]) := by
  have := strsOf_S (l.map fun c => [c])
  simpa [chs, Function.comp_def] using this
theorem glue_nil : ∀ l : List Nat, glue [] (l.map fun c => [c]) = l
  | [] => rfl
  | [c] => rfl
  | c :: d :: r => by
    have := glue_nil (d :: r)
    show [c] ++ [] ++ glue [] ((d :: r).map fun c => [c]) = _
    rw [this]; rfl

set_option maxHeartbeats 2000000 in
theorem fmode_call {B : Wd} {n : Nat} {H : List O} {m : Nat} {f : Addr} (T : Top B) (hf : B.mg "filemode" = some (.ref f)) :
    CW B (n + 2) (.ref f) [.int m] H fun v H' => v = .str (S (fmL m)) ∧ H' = H := by
  obtain ⟨f', hf', F⟩ := T.fmode
  rw [hf] at hf'; cases hf'
  obtain ⟨t, vs, mm, hg, ht, htP, hlen, hrows⟩ := T.tbl
  obtain ⟨fi, hfi, Fi⟩ := T.ifmt
  have hrefs : ∀ v ∈ vs, ∃ a, v = Value.ref a := fun v hv => by
    obtain ⟨i, hi, rfl⟩ := List.getElem_of_mem hv
    obtain ⟨v', e, a, ws, rfl, _⟩ := hrows i (rows[i]'(by omega)) (List.getElem?_eq_getElem _)
    rw [List.getElem?_eq_getElem hi] at e
    exact ⟨a, Option.some.inj e⟩
  refine CW.def T.ok T.there F rfl (fun q cd L _ => ?_) (by decide +kernel)
  refine SW.cons (ST.assign T.there (EW.list (EWs.nil ⟨by decide, ?_⟩)))
  have happ : ∀ {env : Env} {loc : Loc} {pv : List V} {e : Expr} {c : Nat} {R : V → List O → Prop} {p1 p2 p3 : Pos}, loc "perm" = some (.ref H.length) → pv.length ≤ 20 → EW B (n + 1) env loc e (H ++ [.list pv]) (fun v H' => v = .str (S [c]) ∧ H' = H ++ [.list pv]) → R .none (H ++ [.list (pv ++ [.str (S [c])])]) →
      starEach [e] env = (false, eval e env) :: starEach [] env → (p2.endLine == p3.line) = true →
      ((backTo p3 (starEach [e] env)).all (fun x => !x.1) && (backToKw p3 (keywordEach [] env)).all (fun x => x.1.isSome) && decide (([e] : List Expr).length + ([] : List Keyword).length + (if ([] : List Keyword).isEmpty then 0 else 1) < 30)) = true →
      EW B (n + 1) env loc (.Call (.Attribute (.Name (Str.ofString "perm") p1) (Str.ofString "append") p2) [e] [] p3) (H ++ [.list pv]) R := fun {env loc pv e c R p1 p2 p3} hp hpl he hR hse hline hfew => by
    refine EW.meth PySem.F.plainAttrs_list PySem.F.slot_list_append PySem.F.type_list_append (EW.name hp ⟨⟨_, get_last H _, rfl⟩, EWs.cons (EW.mono he fun v H' hh => ?_) hse⟩) rfl hfew hline hse
    obtain ⟨rfl, rfl⟩ := hh
    refine EWs.nil (CW.append T.there (get_last H _) (by have : sizeLine = 16777216 := rfl; omega) ?_)
    rw [set_last]; exact hR
  refine SW.cons (ST.forEnum T.ok T.there ht htP (exts_rel vs hrefs) hg T.enu (fun i loc H' => i ≤ 10 ∧ loc "mode" = some (.int m) ∧ loc "perm" = some (.ref H.length) ∧ H' = H ++ [.list (chs ((fmL m).take i))]) ⟨Nat.zero_le _, rfl, rfl, rfl⟩ ?_ ?_)
  · rintro i v loc H' hvi ⟨hi10, hmode, hperm, rfl⟩
    have hil : i < rows.length := by
      have := (List.getElem?_eq_some_iff.mp hvi).1
      rw [List.length_map] at this; omega
    obtain ⟨v', hv', a, ws, rfl, hws, haP, hwl, hpairs⟩ := hrows i rows[i] (List.getElem?_eq_getElem hil)
    have hva : v = .ext a := by
      rw [List.getElem?_map, hv'] at hvi
      exact (Option.some.inj hvi).symm
    subst hva
    have hr : rows[i]? = some rows[i] := List.getElem?_eq_getElem hil
    generalize hrr : rows[i] = r at *
    have hi10' : i < 10 := hil
    have hnext := fmL_take (m := m) hr
    have hpl : (chs ((fmL m).take i)).length ≤ 20 := by simp [chs]; omega
    have hrefs2 : ∀ w ∈ ws, ∃ b, w = Value.ref b := fun w hw => by
      obtain ⟨j, hj, rfl⟩ := List.getElem_of_mem hw
      obtain ⟨w', e, b, t, u, rfl, _⟩ := hpairs j (r[j]'(by omega)) (List.getElem?_eq_getElem _)
      rw [List.getElem?_eq_getElem hj] at e
      exact ⟨b, Option.some.inj e⟩
    refine SW.cons (ST.for T.there (EW.name (v := .ext a) rfl ?_))
    refine ⟨ws.map extOf, fun _ => True, fun j loc' H' => j ≤ r.length ∧ loc' "mode" = some (.int m) ∧ loc' "perm" = some (.ref H.length) ∧ loc' "index" = some (.int i) ∧ H' = H ++ [.list (chs ((fmL m).take i))] ∧ ∀ p ∈ r.take j, hit i m p = false,
      IT.xtup hws haP (exts_rel ws hrefs2), ⟨Nat.zero_le _, hmode, hperm, rfl, rfl, by simp⟩, fun _ _ _ _ => trivial, ?_, ?_⟩
    · rintro j w loc2 H2 hwj ⟨hj, h1, h2, h3, rfl, hno⟩
      have hjl : j < r.length := by
        have := (List.getElem?_eq_some_iff.mp hwj).1
        rw [List.length_map] at this; omega
      obtain ⟨w', hw', b, tb, ub, rfl, htup, hbP⟩ := hpairs j r[j] (List.getElem?_eq_getElem hjl)
      have hwb : w = .ext b := by
        rw [List.getElem?_map, hw'] at hwj
        exact (Option.some.inj hwj).symm
      subst hwb
      have hrj : r[j]? = some r[j] := List.getElem?_eq_getElem hjl
      generalize hpp : r[j] = p at *
      obtain ⟨bit, ch⟩ := p
      refine AW.xpair (v := .int bit) (w := .str (S [ch])) T.there htup hbP ⟨tb, rfl⟩ ⟨ub, rfl⟩ ?_
      have hfind_none : hit i m (bit, ch) = false → ∀ p ∈ r.take (j + 1), hit i m p = false := fun hh p hp => by
        rw [List.take_add_one, hrj] at hp
        rcases List.mem_append.mp hp with hp | hp
        · exact hno p hp
        · simp at hp; subst hp; exact hh
      have hfound : hit i m (bit, ch) = true → rowCh i m r = ch := fun hh => by
        unfold rowCh
        have : r.find? (hit i m) = some (bit, ch) := by
          have h5 : r = r.take j ++ (bit, ch) :: r.drop (j + 1) := by
            conv => lhs; rw [← List.take_append_drop j r]
            rw [List.drop_eq_getElem_cons hjl, hpp]
          rw [h5, List.find?_append]
          have h6 : (r.take j).find? (hit i m) = none := by
            rw [List.find?_eq_none]; intro p hp; rw [hno p hp]; decide
          rw [h6, List.find?_cons_of_pos hh]; rfl
        rw [this]
      have hend : hit i m (bit, ch) = true → H ++ [O.list (chs ((fmL m).take i) ++ [.str (S [ch])])] = H ++ [.list (chs ((fmL m).take (i + 1)))] := fun hh => by
        rw [hnext, hfound hh]; simp [chs]
      refine SW.cons (ST.ite (TW.compare (EW.name h3 (EW.cint (PW2.eqi (TV.bool ?_))))))
      by_cases hi0 : i = 0
      · subst hi0
        refine SW.cons (ST.ite (TW.compare (EW.call T.ok (.top hfi) Fi.callee (EWs.cons (EW.name h1 (EWs.nil (CW.mono (ifmt_call T hfi) fun v H' hv => ?_)))))))
        obtain ⟨rfl, rfl⟩ := hv
        refine EW.name rfl (PW2.eqi (TV.bool ?_))
        have hh : (((m &&& 61440 : Nat) : Int) == (bit : Int)) = hit 0 m (bit, ch) := by
          unfold hit; rw [if_pos rfl]; exact beq_cast _ _
        rw [hh]
        cases hb : hit 0 m (bit, ch) with
        | true =>
          refine SW.cons (ST.expr (happ (c := ch) h2 hpl (EW.name rfl ⟨rfl, rfl⟩) ?_ rfl rfl rfl))
          refine SW.cons (ST.brk ?_)
          refine SW.nil ⟨by omega, h1, h2, hend hb⟩
        | false =>
          refine SW.nil (SW.nil ?_)
          exact SW.nil ⟨by omega, h1, h2, h3, rfl, hfind_none hb⟩
      · rw [show ((i : Int) == 0) = false from beq_eq_false_iff_ne.mpr (by omega)]
        refine SW.cons (ST.ite (TW.compare (EW.binop (EW.name h1 (EW.name rfl (PW2.band (EW.name rfl (PW2.eqi (TV.bool ?_)))))))))
        rw [band_nat]
        have hh : (((m &&& bit : Nat) : Int) == (bit : Int)) = hit i m (bit, ch) := by
          unfold hit; rw [if_neg hi0]; exact beq_cast _ _
        rw [hh]
        cases hb : hit i m (bit, ch) with
        | true =>
          refine SW.cons (ST.expr (happ (c := ch) h2 hpl (EW.name rfl ⟨rfl, rfl⟩) ?_ rfl rfl rfl))
          refine SW.cons (ST.brk ?_)
          refine SW.nil ⟨by omega, h1, h2, hend hb⟩
        | false =>
          refine SW.nil (SW.nil ?_)
          exact SW.nil ⟨by omega, h1, h2, h3, rfl, hfind_none hb⟩
    · rintro loc2 H2 ⟨hj, h1, h2, h3, rfl, hno⟩
      have hnone : r.find? (hit i m) = none := by
        rw [List.find?_eq_none]; intro p hp
        have : p ∈ r.take (ws.map extOf).length := by
          rw [List.length_map, hwl, List.take_length]; exact hp
        rw [hno p this]; decide
      refine SW.cons (ST.ite (TW.compare (EW.name h3 (EW.cint (PW2.eqi (TV.bool ?_))))))
      by_cases hi0 : i = 0
      · subst hi0
        refine SW.cons (ST.expr (happ (c := 63) h2 hpl (EW.cstr ⟨rfl, rfl⟩) ?_ rfl rfl rfl))
        refine SW.nil (SW.nil (SW.nil ⟨by omega, h1, h2, ?_⟩))
        rw [hnext, show rowCh 0 m r = 63 by unfold rowCh; rw [hnone]; rfl]; simp [chs]
      · rw [show ((i : Int) == 0) = false from beq_eq_false_iff_ne.mpr (by omega)]
        refine SW.cons (ST.expr (happ (c := 45) h2 hpl (EW.cstr ⟨rfl, rfl⟩) ?_ rfl rfl rfl))
        refine SW.nil (SW.nil (SW.nil ⟨by omega, h1, h2, ?_⟩))
        rw [hnext, show rowCh i m r = 45 by unfold rowCh; rw [hnone]; exact if_neg hi0]; simp [chs]
  · rintro loc H' ⟨_, hmode, hperm, rfl⟩
    refine SW.nil ?_
    rw [List.length_map, hlen, List.take_of_length_le (show (fmL m).length ≤ rows.length by simp [fmL])]
    refine SW.cons (ST.ret (EW.meth PySem.F.plainAttrs_str PySem.F.slot_str_join PySem.F.type_str_join (EW.cstr ⟨rfl, EWs.cons (EW.name hperm (EWs.nil (CW.join (get_last H _) (strsOf_chs _) ?_ ?_)))⟩)))
    · have : (fmL m).length = 10 := by simp [fmL, rows]
      unfold JoinOk
      have := StrLaws.joinFits (sep := Str.ofString "") (texts := (fmL m).map fun c => S [c]) (B := 1) (fun y hy => by
        simp only [List.mem_map] at hy
        obtain ⟨c, _, rfl⟩ := hy
        rw [S_len]; exact Nat.le_refl _) (by simp only [List.length_map]; have : (Str.ofString "").length = 0 := rfl; rw [this]; omega)
      rw [this]; rfl
    · refine ret_pure (fun k e => by cases e) ⟨_, rfl⟩ ⟨?_, rfl⟩
      have h1 : ((fmL m).map fun c => S [c]) = ((fmL m).map fun c => [c]).map S := by simp [Function.comp_def]
      rw [h1, show (Str.ofString "") = S [] from rfl, txtjoin_S, glue_nil]

/-- _law_written_by -/
theorem wby_call {B : Wd} {n : Nat} {H : List O} {l : List Nat} {w : Nat} {f : Addr} (T : Top B) (hf : B.mg "_law_written_by" = some (.ref f)) (hw : w < 5) (hx : l.length ≤ 100000) :
    CW B (n + 2) (.ref f) [.int w, .str (S l)] H fun v H' => v = .str (S (mapT (tabOf w) l)) ∧ H' = H := by
  obtain ⟨f', hf', F⟩ := T.wby
  rw [hf] at hf'; cases hf'
  obtain ⟨f0, hf0, F0⟩ := T.esc0
  obtain ⟨f1, hf1, F1⟩ := T.esc1
  obtain ⟨f2, hf2, F2⟩ := T.esc2
  obtain ⟨f3, hf3, F3⟩ := T.esc3
  obtain ⟨f4, hf4, F4⟩ := T.esc4
  refine CW.def T.ok T.there F rfl (fun q cd L _ => ?_) (by decide +kernel)
  have fin : ∀ {w : Nat} {v : V} {H' : List O}, (v = .str (S (mapT (tabOf w) l)) ∧ H' = H) → ∃ u H2 G, (match Fl.ret v with | .ret u => u | _ => .none) = u ∧ H' = H2 ++ G ∧ H.length ≤ H2.length ∧ ((∀ o ∈ H, o.Closed H.length) → ∀ o ∈ H2, o.Closed H2.length) ∧ u.Closed H2.length ∧ (u = .str (S (mapT (tabOf w) l)) ∧ H2 = H) := fun {w v H'} h => by
    obtain ⟨rfl, rfl⟩ := h
    exact ret_pure (Q := fun v H2 => v = _ ∧ H2 = H') (fun k e => by cases e) ⟨[], by simp⟩ ⟨rfl, rfl⟩
  match w, hw with
  | 0, _ =>
    refine SW.cons (ST.ite (TW.compare (EW.name rfl (EW.cint (PW2.eqi (TV.bool ?_))))))
    exact SW.cons (ST.ret (EW.call T.ok (.top hf0) F0.callee (EWs.cons (EW.name rfl (EWs.nil (CW.mono (esc0_call T hf0 hx) fun v H' h => fin h))))))
  | 1, _ =>
    refine SW.cons (ST.ite (TW.compare (EW.name rfl (EW.cint (PW2.eqi (TV.bool ?_))))))
    refine SW.nil (SW.cons (ST.ite (TW.compare (EW.name rfl (EW.cint (PW2.eqi (TV.bool ?_)))))))
    exact SW.cons (ST.ret (EW.call T.ok (.top hf1) F1.callee (EWs.cons (EW.name rfl (EWs.nil (CW.mono (esc1_call T hf1 hx) fun v H' h => fin h))))))
  | 2, _ =>
    refine SW.cons (ST.ite (TW.compare (EW.name rfl (EW.cint (PW2.eqi (TV.bool ?_))))))
    refine SW.nil (SW.cons (ST.ite (TW.compare (EW.name rfl (EW.cint (PW2.eqi (TV.bool ?_)))))))
    refine SW.nil (SW.cons (ST.ite (TW.compare (EW.name rfl (EW.cint (PW2.eqi (TV.bool ?_)))))))
    exact SW.cons (ST.ret (EW.call T.ok (.top hf2) F2.callee (EWs.cons (EW.name rfl (EWs.nil (CW.mono (esc2_call T hf2 hx) fun v H' h => fin h))))))
  | 3, _ =>
    refine SW.cons (ST.ite (TW.compare (EW.name rfl (EW.cint (PW2.eqi (TV.bool ?_))))))
    refine SW.nil (SW.cons (ST.ite (TW.compare (EW.name rfl (EW.cint (PW2.eqi (TV.bool ?_)))))))
    refine SW.nil (SW.cons (ST.ite (TW.compare (EW.name rfl (EW.cint (PW2.eqi (TV.bool ?_)))))))
    refine SW.nil (SW.cons (ST.ite (TW.compare (EW.name rfl (EW.cint (PW2.eqi (TV.bool ?_)))))))
    exact SW.cons (ST.ret (EW.call T.ok (.top hf3) F3.callee (EWs.cons (EW.name rfl (EWs.nil (CW.mono (esc3_call T hf3 hx) fun v H' h => fin h))))))
  | 4, _ =>
    refine SW.cons (ST.ite (TW.compare (EW.name rfl (EW.cint (PW2.eqi (TV.bool ?_))))))
    refine SW.nil (SW.cons (ST.ite (TW.compare (EW.name rfl (EW.cint (PW2.eqi (TV.bool ?_)))))))
    refine SW.nil (SW.cons (ST.ite (TW.compare (EW.name rfl (EW.cint (PW2.eqi (TV.bool ?_)))))))
    refine SW.nil (SW.cons (ST.ite (TW.compare (EW.name rfl (EW.cint (PW2.eqi (TV.bool ?_)))))))
    refine SW.nil ?_
    exact SW.cons (ST.ret (EW.call T.ok (.top hf4) F4.callee (EWs.cons (EW.name rfl (EWs.nil (CW.mono (esc4_call T hf4 hx) fun v H' h => fin h))))))
  | k + 5, h => omega
end Mine

end
section
open PySem PySem.W PySem.Calls PyProof.Rows
set_option maxRecDepth 100000
namespace Mine
theorem EW.and2 {B : Wd} {n : Nat} {env : Env} {loc : Loc} {H : List O} {Q : V → List O → Prop} {a b : Expr} {pos : Pos} (h : EW B n env loc a H fun v H1 => TV B n v H1 fun x H2 => cond x (EW B n env loc b H2 Q) (Q v H2)) : EW B n env loc (.BoolOp .And [a, b] pos) H Q :=
  fun A E s ρ QQ hA S L kk => by
    refine wpAny_And2 (h A E s ρ _ hA S L fun v v' H1 ρ1 s1 q vv S1 st1 => q A E s1 ρ1 v' _ hA S1 vv fun x H2 ρ2 s2 q2 S2 st2 => ?_)
    cases x with
    | true => exact q2 A E s2 ρ2 _ hA S2 ((L.step st1).step st2) fun v v' H3 ρ3 s3 q3 vv3 S3 st3 => kk v v' H3 ρ3 s3 q3 vv3 S3 ((st1.trans S1 st2).trans S2 st3)
    | false => exact kk v v' H2 ρ2 s2 q2 (st2.mono vv) S2 (st1.trans S1 st2)
def signOf (x : Int) : Nat := if (x.fmod 1112064).toNat < 55296 then (x.fmod 1112064).toNat else (x.fmod 1112064).toNat + 2048
theorem globB {B : Wd} {x : Str} {v : Value} (h : B.mg x = none) (hn : x ≠ "__name__") (hb : bootBuiltins x = some v) : Glob B x v := .boot h hn hb
theorem sign_call {B : Wd} {n : Nat} {H : List O} {x : Int} {f : Addr} (T : Top B) (hf : B.mg "_law_sign" = some (.ref f)) :
    CW B (n + 1) (.ref f) [.int x] H fun v H' => v = .str (S [signOf x]) ∧ H' = H := by
  obtain ⟨f', hf', F⟩ := T.sign
  rw [hf] at hf'; cases hf'
  have gchr : Glob B "chr" (.builtin "chr") := globB (T.bi _ (by simp)) (by decide) (by rfl)
  refine CW.def T.ok T.there F rfl (fun q cd L _ => ?_) (by decide +kernel)
  refine SW.cons (ST.assign T.there (EW.binop (EW.name rfl (EW.cint (PW2.fmod (by decide) ?_)))))
  have h0 : 0 ≤ x.fmod 1112064 := Int.fmod_nonneg_of_pos _ (by decide)
  have h1 : x.fmod 1112064 < 1112064 := Int.fmod_lt_of_pos _ (by decide)
  refine SW.cons (ST.ret (EW.ifexp (TW.compare (EW.name rfl (EW.cint (PW2.lti (TV.bool ?_)))))))
  by_cases hlt : x.fmod 1112064 < 55296
  · rw [decide_eq_true hlt]
    refine EW.call T.ok gchr (.builtin _) (EWs.cons (EW.name rfl (EWs.nil (CW.chr h0 (by omega) ?_))))
    refine ret_pure (fun k e => by cases e) ⟨[], by simp⟩ ⟨?_, rfl⟩
    unfold signOf; rw [if_pos (by omega)]; rfl
  · rw [decide_eq_false hlt]
    refine EW.call T.ok gchr (.builtin _) (EWs.cons (EW.binop (EW.name rfl (EW.cint (PW2.add (EWs.nil (CW.chr (by omega) (by omega) ?_)))))))
    refine ret_pure (fun k e => by cases e) ⟨[], by simp⟩ ⟨?_, rfl⟩
    unfold signOf; rw [if_neg (by omega)]
    have : (x.fmod 1112064 + 2048).toNat = (x.fmod 1112064).toNat + 2048 := by omega
    rw [this]; rfl
def safeStr : Str := Str.ofString "ABCDEFGHIJKLMNOPQRSTUVWXYZabcdefghijklmnopqrstuvwxyz0123456789_@%+=:,./-"
def safeL : List Nat := safeStr.cps.toList
theorem safe_small : ∀ c : Fin 256, safeCp c.1 = safeL.contains c.1 := by decide +kernel
theorem safeL_small : ∀ c ∈ safeL, c < 256 := by decide +kernel
theorem safe_is (c : Nat) : safeCp c = decide (c ∈ safeL) := by
  by_cases h : c < 256
  · have := safe_small ⟨c, h⟩
    rw [this]
    by_cases hm : c ∈ safeL <;> simp [hm]
  · have h1 : ¬ c ∈ safeL := fun m => h (safeL_small c m)
    have h2 : safeCp c = false := by
      unfold safeCp Sre.isWord Sre.isDigit
      simp [h]
      omega
    rw [h2, decide_eq_false h1]
theorem locC_upd {S : Scope} {loc : Loc} {y : Str} {w : V} (h : (S.names.lookup y == some .free) = false) : ∀ x v, locC S loc x = some v → upd (locC S loc) y w x = some v := fun x v e => by
  unfold upd
  by_cases hx : x = y
  · subst hx; unfold locC at e; rw [h] at e; cases e
  · rw [if_neg hx]; exact e
theorem PW2.addS {B : Wd} {n : Nat} {H : List O} {Q : V → List O → Prop} {x y : Str} (l m : List Nat) (hsz : l.length + m.length ≤ 1000000) (q : Q (.str (S (l ++ m))) H) (hx : x = S l := by rfl) (hy : y = S m := by rfl) :
    PW2 B n (binaryOp .Add) (.str x) (.str y) H Q := by
  subst hx hy
  have : sizeLine = 16777216 := rfl
  refine PW2.adds (by rw [S_len, S_len]; omega) ?_
  rw [S_app]; exact q
def bareL (l : List Nat) : Bool := decide (l ≠ []) && l.all safeCp
theorem signs_S (l : List Nat) (i : Nat) (v : V) (h : (signs (S l))[i]? = some v) : ∃ c, l[i]? = some c ∧ v = .str (S [c]) := by
  unfold signs at h
  rw [S_cps, List.getElem?_map] at h
  cases e : l[i]? with
  | none => rw [e] at h; cases h
  | some c => rw [e] at h; exact ⟨c, rfl, (Option.some.inj h).symm⟩
theorem signs_len (l : List Nat) : (signs (S l)).length = l.length := by unfold signs; rw [List.length_map, S_cps]
set_option maxHeartbeats 1000000 in
theorem bare_call {B : Wd} {n : Nat} {H : List O} {l : List Nat} {f : Addr} (T : Top B) (hf : B.mg "_law_bare" = some (.ref f)) (hl : l.length ≤ 100000) :
    CW B (n + 1) (.ref f) [.str (S l)] H fun v H' => v = .bool (bareL l) ∧ H' = H := by
  obtain ⟨f', hf', F⟩ := T.bare
  rw [hf] at hf'; cases hf'
  have hsl : sizeLine = 16777216 := rfl
  refine CW.def T.ok T.there F rfl (fun q cd L _ => ?_) (by decide +kernel)
  refine SW.cons (ST.assignC T.there (EW.cstr ?_))
  refine SW.cons (ST.ret ?_)
  refine EW.and2 (EW.compare (EW.name rfl (EW.cstr (PW2.nes (TV.bool ?_)))))
  rw [show (Str.ofString "") = S [] from rfl, show (S l != S []) = decide (l ≠ []) by rw [bne, S_beq]; simp]
  by_cases h0 : l = []
  · subst h0
    exact ret_pure (fun k e => by cases e) ⟨[], by simp⟩ ⟨rfl, rfl⟩
  · rw [decide_eq_true h0]
    refine EW.compare (EW.comp T.there (EW.name rfl ?_))
    refine ⟨signs (S l), fun _ => True, fun i acc H' => H' = H ∧ acc = ((l.take i).filter fun c => !safeCp c).map fun c => V.str (S [c]), IT.str, by rw [signs_len]; omega, ⟨rfl, rfl⟩, ?_, ?_, ?_⟩
    · rintro i acc H' ⟨rfl, rfl⟩
      refine ⟨trivial, ?_⟩
      rw [List.length_map]
      refine Nat.le_trans (List.length_filter_le _ _) ?_
      rw [List.length_take]; omega
    · rintro i v acc H' C hv ⟨rfl, rfl⟩
      obtain ⟨c, hc, rfl⟩ := signs_S l i v hv
      refine AW.name T.there ⟨locC_upd rfl, ?_⟩
      refine TW.compare (EW.name rfl (EW.name (v := .str safeStr) rfl (PW2.nins (TV.bool ?_))))
      rw [show safeStr = S safeL from S_of safeStr, in_S, ← safe_is]
      cases hs : safeCp c with
      | true =>
        refine ⟨rfl, ?_⟩
        rw [List.take_add_one, hc, List.filter_append, List.map_append]
        simp [hs]
      | false =>
        refine EW.name rfl ⟨rfl, ?_⟩
        rw [List.take_add_one, hc, List.filter_append, List.map_append]
        simp [hs]
    · rintro acc H' ⟨rfl, rfl⟩
      rw [signs_len, List.take_length]
      refine EW.list (EWs.nil ⟨by decide, ?_⟩)
      refine PW2.eqNil (vs := (l.filter fun c => !safeCp c).map fun c => V.str (S [c])) (by simp) (by simp) ?_
      refine ret_pure (fun k e => by cases e) ⟨_, List.append_assoc _ _ _⟩ ⟨?_, rfl⟩
      have : ((l.filter fun c => !safeCp c).map fun c => V.str (S [c])).isEmpty = l.all safeCp := by
        rw [List.isEmpty_map]
        induction l with
        | nil => rfl
        | cons c r ih =>
          clear ih h0 hl
          induction r generalizing c with
          | nil => cases hs : safeCp c <;> simp [hs]
          | cons d r ih =>
            have := ih d
            cases hs : safeCp c
            · simp [hs]
            · simp only [List.filter_cons, hs, List.all_cons, Bool.true_and] at this ⊢
              simpa using this
      rw [this]; unfold bareL; rw [decide_eq_true h0]; rfl
theorem intsOf_nat (l : List Nat) : intsOf (l.map fun k : Nat => V.int (k : Int)) = some (l.map fun k : Nat => (k : Int)) := by
  induction l with
  | nil => rfl
  | cons a r ih =>
    simp only [List.map_cons]
    unfold intsOf
    rw [ih]; rfl
theorem sum_cast (l : List Nat) : (l.map fun k : Nat => (k : Int)).sum = ((l.sum : Nat) : Int) := by
  induction l with
  | nil => rfl
  | cons a r ih => simp only [List.map_cons, List.sum_cons, ih]; push_cast; rfl
theorem fdiv_nat (m k : Nat) : (m : Int).fdiv (k : Int) = ((m / k : Nat) : Int) := by
  rw [Int.fdiv_eq_ediv_of_nonneg _ (Int.natCast_nonneg k)]; rfl
theorem fmod_nat (m k : Nat) : (m : Int).fmod (k : Int) = ((m % k : Nat) : Int) := by
  rw [Int.fmod_eq_emod_of_nonneg _ (Int.natCast_nonneg k)]; rfl
theorem any_cast (l : List Nat) (k : Nat) : ((l.map fun x : Nat => (x : Int)).any fun x => x == (k : Int)) = l.any (· == k) := by
  induction l with
  | nil => rfl
  | cons a r ih => simp only [List.map_cons, List.any_cons, ih, beq_cast]
def known (m : Nat) : Bool := [1, 2, 4, 6, 8, 10, 12].any (· == m / 4096)
section
variable {B : Wd} {n : Nat} {H : List O} {Q : V → List O → Prop}
theorem PW2.divN {x y : Int} (a b : Nat) (hb : 0 < b) (hs : b < 1073741824) (q : Q (.int ((a / b : Nat) : Int)) H) (hx : x = (a : Int) := by rfl) (hy : y = (b : Int) := by rfl) : PW2 B n (binaryOp .FloorDiv) (.int x) (.int y) H Q := by
  subst hx hy
  refine PW2.fdiv (by omega) (by omega) ?_
  rw [fdiv_nat]; exact q
theorem PW2.modN {x y : Int} (a b : Nat) (hb : 0 < b) (q : Q (.int ((a % b : Nat) : Int)) H) (hx : x = (a : Int) := by rfl) (hy : y = (b : Int) := by rfl) : PW2 B n (binaryOp .Mod) (.int x) (.int y) H Q := by
  subst hx hy
  refine PW2.fmod (by omega) ?_
  rw [fmod_nat]; exact q
theorem PW2.addN {x y : Int} (a b : Nat) (q : Q (.int ((a + b : Nat) : Int)) H) (hx : x = (a : Int) := by rfl) (hy : y = (b : Int) := by rfl) : PW2 B n (binaryOp .Add) (.int x) (.int y) H Q := by
  subst hx hy
  refine PW2.add ?_
  have : (a : Int) + (b : Int) = ((a + b : Nat) : Int) := by push_cast; rfl
  rw [this]; exact q
theorem PW2.subN {x y : Int} (a b : Nat) (hab : b ≤ a) (q : Q (.int ((a - b : Nat) : Int)) H) (hx : x = (a : Int) := by rfl) (hy : y = (b : Int) := by rfl) : PW2 B n (binaryOp .Sub) (.int x) (.int y) H Q := by
  subst hx hy
  refine PW2.sub ?_
  have : (a : Int) - (b : Int) = ((a - b : Nat) : Int) := by omega
  rw [this]; exact q
theorem PW2.mulN {x y : Int} (a b : Nat) (hm : IntMulOk (a : Int) (b : Int)) (q : Q (.int ((a * b : Nat) : Int)) H) (hx : x = (a : Int) := by rfl) (hy : y = (b : Int) := by rfl) : PW2 B n (binaryOp .Mult) (.int x) (.int y) H Q := by
  subst hx hy
  refine PW2.mul hm ?_
  have : (a : Int) * (b : Int) = ((a * b : Nat) : Int) := by push_cast; rfl
  rw [this]; exact q
theorem PW2.powN {x y : Int} (a b : Nat) (hs : (Builtin.Int.intBits (a : Int) : Int) * b ≤ 2 ^ 27) (q : Q (.int ((a ^ b : Nat) : Int)) H) (hx : x = (a : Int) := by rfl) (hy : y = (b : Int) := by rfl) : PW2 B n (binaryOp .Pow) (.int x) (.int y) H Q := by
  subst hx hy
  refine PW2.pow (by omega) hs ?_
  rw [Int.toNat_natCast]
  have : (a : Int) ^ b = ((a ^ b : Nat) : Int) := by push_cast; rfl
  rw [this]; exact q
theorem PW2.eqN {x y : Int} (a b : Nat) (q : Q (.bool (a == b)) H) (hx : x = (a : Int) := by rfl) (hy : y = (b : Int) := by rfl) : PW2 B n (compareOp .Eq) (.int x) (.int y) H Q := by
  subst hx hy
  refine PW2.eqi ?_
  rw [beq_cast]; exact q
theorem PW2.ltN {x y : Int} (a b : Nat) (q : Q (.bool (decide (a < b))) H) (hx : x = (a : Int) := by rfl) (hy : y = (b : Int) := by rfl) : PW2 B n (compareOp .Lt) (.int x) (.int y) H Q := by
  subst hx hy
  refine PW2.lti ?_
  have : decide ((a : Int) < (b : Int)) = decide (a < b) := by simp
  rw [this]; exact q
theorem PW2.gtN {x y : Int} (a b : Nat) (q : Q (.bool (decide (b < a))) H) (hx : x = (a : Int) := by rfl) (hy : y = (b : Int) := by rfl) : PW2 B n (compareOp .Gt) (.int x) (.int y) H Q := by
  subst hx hy
  refine PW2.gti ?_
  have : decide ((b : Int) < (a : Int)) = decide (b < a) := by simp
  rw [this]; exact q
/-- a sign of a text -/
theorem PW2.itemN {value slice : Expr} {x : Str} {y : Int} (l : List Nat) (i : Nat) (c : Nat) (hl : l.length ≤ 1000000) (hc : l[i]? = some c) (q : Q (.str (S [c])) H) (hx : x = S l := by rfl) (hy : y = (i : Int) := by rfl)
    (hs : ∀ (x : Str) (i : Int) t u, subscripted slice false (.str x t) (.int i u) = operate [.str x t, .int i u] (getItem (.str x t) (.int i u)) := by intro _ _ _ _; with_unfolding_all rfl) :
    PW2 B n (subscriptTail value slice) (.str x) (.int y) H Q := by
  subst hx hy
  have hlt := (List.getElem?_eq_some_iff.mp hc).1
  refine PW2.itemS (c := c) (by omega) (by omega) ?_ q (hs _ _)
  rw [Int.toNat_natCast]
  show (l.toArray)[i]? = _
  simpa using hc
end
def thirdOf (p : Nat) : Nat := (p - 1) / 3
def digitOf (m p : Nat) : Nat := m / 8 ^ (2 - thirdOf p) % 8
def aboveOf (m p : Nat) : Nat := m / 512 / 2 ^ (2 - thirdOf p) % 2
def lastRow (t : Nat) : List Nat := if t < 2 then [45, 120, 83, 115] else [45, 120, 84, 116]
def rightC (m p : Nat) : Nat :=
  if p % 3 = 1 then [45, 114].getD (digitOf m p / 4) 0 else if p % 3 = 2 then [45, 119].getD (digitOf m p / 2 % 2) 0 else (lastRow (thirdOf p)).getD (digitOf m p % 2 + 2 * aboveOf m p) 0
theorem getD_some {l : List Nat} {i : Nat} (h : i < l.length) : l[i]? = some (l.getD i 0) := by
  rw [List.getD_eq_getElem?_getD, List.getElem?_eq_getElem h]; rfl
section
variable {B : Wd} {n : Nat} {env : Env} {loc : Loc} {H : List O} {Q : V → List O → Prop}
theorem EW.toN {x : Str} {e : Expr} {p1 p2 p3 : Pos} (l : List Nat) (hx : loc x = some (.str (S l))) (hl : l.length ≤ 1000000) (h : EW B n env loc e H fun u H2 => ∃ b : Nat, u = .int b ∧ Q (.str (S (l.take b))) H2)
    (hd : (x == ("__debug__" : Str)) = false := by decide) (hc : (x == ("__classdict__" : Str)) = false := by decide) : EW B n env loc (.Subscript (.Name x p1) (.Slice none (some e) none p2) p3) H Q := by
  have hsl : sizeLine = 16777216 := rfl
  refine EW.sliceS (x := S []) (lo := none) (hi := none) (EW.name hx (EP.none (EP.some (EW.mono h fun v H' hv => ?_))) hd hc)
  obtain ⟨b, rfl, q⟩ := hv
  exact ⟨b, rfl, S l, rfl, by rw [S_len]; omega, by rw [slice_Sto]; exact q⟩
/-- the numbers that stand in a display -/
def intOf (e : Expr) : Option Int := match e with
  | .Constant (.int i) _ _ => some i
  | _ => none
theorem intOf_is {e : Expr} {i : Int} (h : intOf e = some i) : ∃ k p, e = .Constant (.int i) k p := by
  cases e with
  | Constant c k p =>
    cases c with
    | int j => cases h; exact ⟨k, p, rfl⟩
    | _ => cases h
  | _ => cases h
def constInts : List Expr → Option (List Int)
  | [] => some []
  | e :: r => (intOf e).bind fun i => (constInts r).map (i :: ·)
theorem EWs.ints {elts : List Expr} : ∀ {is : List Int} {Q : List V → List O → Prop}, constInts elts = some is → Q (is.map V.int) H → EWs B n env loc elts H Q := by
  induction elts with
  | nil =>
    intro is Q h q
    obtain rfl := Option.some.inj h
    exact EWs.nil q
  | cons e r ih =>
    intro is Q h q
    have h : (intOf e).bind (fun i => (constInts r).map (i :: ·)) = some is := h
    obtain ⟨i, h1, h2⟩ := Option.bind_eq_some_iff.mp h
    obtain ⟨js, h3, rfl⟩ := Option.map_eq_some_iff.mp h2
    obtain ⟨k, p, rfl⟩ := intOf_is h1
    exact EWs.cons (EW.cint (ih h3 q))
theorem EW.ints {elts : List Expr} {is : List Int} {pos : Pos} (h : constInts elts = some is) (hl : is.length ≤ 1000) (q : Q (.ref H.length) (H ++ [.list (is.map V.int)])) : EW B n env loc (.List elts pos) H Q := by
  have : sizeLine = 16777216 := rfl
  exact EW.list (EWs.ints h ⟨by rw [List.length_map]; omega, q⟩)
end
def pairO (m : Nat) (l : List Nat) : O := .list [.int (m : Int), .str (S l)]
def types : List Nat := (Str.ofString "?pc?d?b?-?l?s???").cps.toList
abbrev File := Nat × List Nat
/-- the list of files, in the ledger -/
structure Files (H : List O) (kf : Nat) (ks : List Nat) (fs : List File) : Prop where
  l : H[kf]? = some (.list (ks.map V.ref))
  len : ks.length = fs.length
  nodup : ks.Nodup
  out : kf ∉ ks
  at_ : ∀ (i : Nat) f k, fs[i]? = some f → ks[i]? = some k → H[k]? = some (.list [.int (f.1 : Int), .str (S f.2)])
theorem Files.app {H : List O} {kf ks fs} (F : Files H kf ks fs) (G : List O) : Files (H ++ G) kf ks fs :=
  ⟨getElem?_app F.l, F.len, F.nodup, F.out, fun i f k h1 h2 => getElem?_app (F.at_ i f k h1 h2)⟩
/-- an expression that leaves its heap as it was, but for what it drops -/
theorem EW.gc0 {B : Wd} {n : Nat} {env : Env} {loc : Loc} {H : List O} {Q : V → List O → Prop} {e : Expr} (h : EW B n env loc e H fun v H' => (∃ G, H' = H ++ G) ∧ (∀ k, v ≠ .ref k) ∧ Q v H) : EW B n env loc e H Q :=
  EW.gc (EW.mono h fun v H' hv => by
    obtain ⟨⟨G, rfl⟩, hv, q⟩ := hv
    exact ⟨H, G, rfl, Nat.le_refl _, fun h => h, fun k e => absurd e (hv k), q⟩)
/-- how the ledger may go on -/
def Keep (H H' : List O) : Prop := H.length ≤ H'.length ∧ ((∀ o ∈ H, o.Closed H.length) → ∀ o ∈ H', o.Closed H'.length)
theorem Files.lt {H : List O} {kf ks fs} (F : Files H kf ks fs) : ∀ k ∈ ks, k < H.length := fun k hk => by
  obtain ⟨i, hi, rfl⟩ := List.getElem_of_mem hk
  have := F.len
  exact (List.getElem?_eq_some_iff.mp (F.at_ i (fs[i]'(by omega)) ks[i] (List.getElem?_eq_getElem _) (List.getElem?_eq_getElem _))).1
theorem Files.kf_lt {H : List O} {kf ks fs} (F : Files H kf ks fs) : kf < H.length := (List.getElem?_eq_some_iff.mp F.l).1
section
variable {α β : Type} {R : α → β → Prop}
inductive All2 {α β : Type} (R : α → β → Prop) : List α → List β → Prop
  | nil : All2 R [] []
  | cons {a b l m} : R a b → All2 R l m → All2 R (a :: l) (b :: m)
theorem All2.length {l : List α} {m : List β} (h : All2 R l m) : l.length = m.length := by
  induction h with
  | nil => rfl
  | cons _ _ ih => simp [ih]
theorem All2.get {l : List α} {m : List β} (h : All2 R l m) : ∀ {i : Nat} {a b}, l[i]? = some a → m[i]? = some b → R a b := by
  induction h with
  | nil => intro i a b e; simp at e
  | cons h _ ih =>
    intro i a b e1 e2
    cases i with
    | zero => simp at e1 e2; subst e1 e2; exact h
    | succ i => exact ih (by simpa using e1) (by simpa using e2)
theorem All2.app {l l' : List α} {m m' : List β} (h : All2 R l m) (k : All2 R l' m') : All2 R (l ++ l') (m ++ m') := by
  induction h with
  | nil => exact k
  | cons h _ ih => exact .cons h ih
theorem All2.imp {R' : α → β → Prop} {l : List α} {m : List β} (h : All2 R l m) (hi : ∀ a b, R a b → R' a b) : All2 R' l m := by
  induction h with
  | nil => exact .nil
  | cons h _ ih => exact .cons (hi _ _ h) ih
end
section
variable {B : Wd} {n : Nat} {H : List O} {Q : V → List O → Prop}
theorem PW2.modI {x y : Int} (b : Nat) (hb : 0 < b) (q : ∀ i : Nat, i < b → Q (.int (i : Int)) H) (hy : y = (b : Int) := by rfl) : PW2 B n (binaryOp .Mod) (.int x) (.int y) H Q := by
  subst hy
  refine PW2.fmod (by omega) ?_
  have h0 : 0 ≤ x.fmod b := Int.fmod_nonneg_of_pos _ (by omega)
  have h1 : x.fmod b < b := Int.fmod_lt_of_pos _ (by omega)
  have := q (x.fmod b).toNat (by omega)
  rwa [Int.toNat_of_nonneg h0] at this
theorem PW2.divI {x y : Int} (b : Nat) (hb : 0 < b) (hs : b < 1073741824) (q : ∀ z : Int, Q (.int z) H) (hy : y = (b : Int) := by rfl) : PW2 B n (binaryOp .FloorDiv) (.int x) (.int y) H Q := by
  subst hy
  exact PW2.fdiv (by omega) (by omega) (q _)
end
section
variable {B : Wd} {n : Nat} {env : Env} {loc : Loc} {H : List O} {Q : Bool → List O → Prop}
theorem TW.mono {e : Expr} {Q' : Bool → List O → Prop} (h : TW B n env loc e H Q) (hq : ∀ b H', Q b H' → Q' b H') : TW B n env loc e H Q' :=
  fun A E s ρ QQ hA S L k => h A E s ρ QQ hA S L fun b H' ρ' s' q => k b H' ρ' s' (hq _ _ q)
theorem TW.andp {a b : Expr} {pos : Pos} (x y : Bool) (h1 : TW B n env loc a H fun v H1 => v = x ∧ H1 = H) (h2 : TW B n env loc b H fun v H1 => v = y ∧ H1 = H) (q : Q (x && y) H) : TW B n env loc (.BoolOp .And [a, b] pos) H Q := by
  refine TW.and2 (TW.mono h1 fun v H1 hv => ?_)
  obtain ⟨rfl, rfl⟩ := hv
  cases v with
  | true => exact TW.mono h2 fun u H2 hu => by obtain ⟨rfl, rfl⟩ := hu; exact q
  | false => exact q
theorem TW.orp {a b : Expr} {pos : Pos} (x y : Bool) (h1 : TW B n env loc a H fun v H1 => v = x ∧ H1 = H) (h2 : TW B n env loc b H fun v H1 => v = y ∧ H1 = H) (q : Q (x || y) H) : TW B n env loc (.BoolOp .Or [a, b] pos) H Q := by
  refine TW.or2 (TW.mono h1 fun v H1 hv => ?_)
  obtain ⟨rfl, rfl⟩ := hv
  cases v with
  | false => exact TW.mono h2 fun u H2 hu => by obtain ⟨rfl, rfl⟩ := hu; exact q
  | true => exact q
end
end Mine

end
section
open PySem PySem.W PySem.Calls PyProof.Rows
set_option maxRecDepth 100000
namespace Mine
def small (fs : List File) : Prop := fs.length ≤ 20 ∧ ∀ f ∈ fs, f.2.length ≤ 1000
/-- files[i][j] -/
theorem EW.cell0 {B : Wd} {n : Nat} {env : Env} {loc : Loc} {H : List O} {Q : V → List O → Prop} {kf i : Nat} {ks fs} {x y : Str} {p1 p2 p3 p4 p5 : Pos} {k : Nat} {f : File} (hx : loc x = some (.ref kf)) (hy : loc y = some (.int i)) (FF : Files H kf ks fs) (hs : small fs) (hi : fs[i]? = some f)
    (q : Q (.int (f.1 : Int)) H) (hd1 : (x == ("__debug__" : Str)) = false := by decide) (hc1 : (x == ("__classdict__" : Str)) = false := by decide) (hd2 : (y == ("__debug__" : Str)) = false := by decide) (hc2 : (y == ("__classdict__" : Str)) = false := by decide) :
    EW B n env loc (.Subscript (.Subscript (.Name x p1) (.Name y p2) p3) (.Constant (.int 0) k p4) p5) H Q := by
  have hil := (List.getElem?_eq_some_iff.mp hi).1
  have hkl := FF.len
  have hs1 := hs.1
  have hki : ks[i]? = some (ks[i]'(by omega)) := List.getElem?_eq_getElem _
  refine EW.item (EW.item (EW.name hx (EW.name hy (PW2.item FF.l (by omega) (by omega) (v := .ref (ks[i]'(by omega))) ?_ (EW.cint (PW2.item (FF.at_ i f _ hi hki) (by decide) (by decide) rfl q))) hd2 hc2) hd1 hc1))
  rw [Int.toNat_natCast, List.getElem?_map, hki]; rfl
theorem EW.cell1 {B : Wd} {n : Nat} {env : Env} {loc : Loc} {H : List O} {Q : V → List O → Prop} {kf i : Nat} {ks fs} {x y : Str} {p1 p2 p3 p4 p5 : Pos} {k : Nat} {f : File} (hx : loc x = some (.ref kf)) (hy : loc y = some (.int i)) (FF : Files H kf ks fs) (hs : small fs) (hi : fs[i]? = some f)
    (q : Q (.str (S f.2)) H) (hd1 : (x == ("__debug__" : Str)) = false := by decide) (hc1 : (x == ("__classdict__" : Str)) = false := by decide) (hd2 : (y == ("__debug__" : Str)) = false := by decide) (hc2 : (y == ("__classdict__" : Str)) = false := by decide) :
    EW B n env loc (.Subscript (.Subscript (.Name x p1) (.Name y p2) p3) (.Constant (.int 1) k p4) p5) H Q := by
  have hil := (List.getElem?_eq_some_iff.mp hi).1
  have hkl := FF.len
  have hs1 := hs.1
  have hki : ks[i]? = some (ks[i]'(by omega)) := List.getElem?_eq_getElem _
  refine EW.item (EW.item (EW.name hx (EW.name hy (PW2.item FF.l (by omega) (by omega) (v := .ref (ks[i]'(by omega))) ?_ (EW.cint (PW2.item (FF.at_ i f _ hi hki) (by decide) (by decide) rfl q))) hd2 hc2) hd1 hc1))
  rw [Int.toNat_natCast, List.getElem?_map, hki]; rfl
end Mine

end
section
open PySem PySem.W PySem.Calls PyProof.Rows
set_option maxRecDepth 100000
namespace Mine

/-- how many signs two texts begin with in common -/
def lcp : List Nat → List Nat → Nat
  | a :: x, b :: y => if a = b then lcp x y + 1 else 0
  | _, _ => 0
theorem lcp_le : ∀ x y : List Nat, lcp x y ≤ x.length ∧ lcp x y ≤ y.length
  | [], _ => ⟨Nat.zero_le _, Nat.zero_le _⟩
  | _ :: _, [] => ⟨Nat.zero_le _, Nat.zero_le _⟩
  | a :: x, b :: y => by
    have h := lcp_le x y
    unfold lcp
    simp only [List.length_cons]
    split <;> omega
theorem lcp_in : ∀ (x y : List Nat) (j : Nat), j < lcp x y → ∃ c, x[j]? = some c ∧ y[j]? = some c
  | [], _, j, h => absurd h (Nat.not_lt_zero _)
  | _ :: _, [], j, h => absurd h (Nat.not_lt_zero _)
  | a :: x, b :: y, j, h => by
    unfold lcp at h
    split at h
    · rename_i e
      subst e
      cases j with
      | zero => exact ⟨a, rfl, rfl⟩
      | succ j => simpa using lcp_in x y j (by omega)
    · exact absurd h (Nat.not_lt_zero _)
theorem lcp_at : ∀ (x y : List Nat), lcp x y < x.length → lcp x y < y.length → ∃ a b, x[lcp x y]? = some a ∧ y[lcp x y]? = some b ∧ a ≠ b
  | [], _, h, _ => absurd h (Nat.not_lt_zero _)
  | _ :: _, [], _, h => absurd h (Nat.not_lt_zero _)
  | a :: x, b :: y, h, h' => by
    unfold lcp at h h' ⊢
    simp only [List.length_cons] at h h'
    by_cases e : a = b
    · rw [if_pos e] at h h' ⊢
      simpa using lcp_at x y (by omega) (by omega)
    · rw [if_neg e]
      exact ⟨a, b, rfl, rfl, e⟩

/-- a list of numbers of the ledger -/
def natsO (l : List Nat) : O := .list (l.map fun k : Nat => V.int (k : Int))
section
variable {B : Wd} {n : Nat} {H : List O} {Q : V → List O → Prop}
theorem PW2.iaddN {x y : Int} (a b : Nat) (q : Q (.int ((a + b : Nat) : Int)) H) (hx : x = (a : Int) := by rfl) (hy : y = (b : Int) := by rfl) : PW2 B n (inplaceOp .Add) (.int x) (.int y) H Q := fun A E s ρ a' b' QQ hA S va vb kk => by
  subst hx hy
  obtain ⟨t, rfl⟩ := va; obtain ⟨u, rfl⟩ := vb
  refine AutoIntOps.iadd_0 ?_
  have : (a : Int) + (b : Int) = ((a + b : Nat) : Int) := by push_cast; rfl
  rw [this]
  exact kk _ _ _ ρ _ q ⟨_, rfl⟩ (S.tok S.ltok) Step.tok
theorem PW2.itemI {value slice : Expr} {k : Nat} {y : Int} {l : List Nat} (i c : Nat) (hk : H[k]? = some (natsO l)) (hl : l.length ≤ 1000000) (hc : l[i]? = some c) (q : Q (.int (c : Int)) H) (hy : y = (i : Int) := by rfl)
    (hs : ∀ (k : Addr) (i : Int) u, subscripted slice false (.ref k) (.int i u) = operate [.ref k, .int i u] (getItem (.ref k) (.int i u)) := by intro _ _ _; with_unfolding_all rfl) :
    PW2 B n (subscriptTail value slice) (.ref k) (.int y) H Q := by
  subst hy
  have hlt := (List.getElem?_eq_some_iff.mp hc).1
  refine PW2.item (v := .int (c : Int)) hk (by omega) (by omega) ?_ q (fun _ _ => hs _ _ _)
  rw [Int.toNat_natCast, List.getElem?_map, hc]; rfl
theorem CW.lenN {k : Nat} {l : List Nat} (hk : H[k]? = some (natsO l)) (hl : l.length ≤ 1000000) (q : Q (.int (l.length : Int)) H) : CW B n (.builtin "len") [.ref k] H Q := by
  refine CW.lenl hk (by rw [List.length_map]; omega) ?_
  rw [List.length_map]; exact q
theorem CW.lenS {l : List Nat} (hl : l.length ≤ 1000000) (q : Q (.int (l.length : Int)) H) : CW B n (.builtin "len") [.str (S l)] H Q := by
  refine CW.lens (by rw [S_len]; omega) ?_
  rw [S_len]; exact q
theorem CW.minN {x y : Int} (a b : Nat) (q : Q (.int ((Min.min a b : Nat) : Int)) H) (hx : x = (a : Int) := by rfl) (hy : y = (b : Int) := by rfl) : CW B n (.builtin "min") [.int x, .int y] H Q := by
  subst hx hy
  refine CW.min ?_
  have : (if (b : Int) < (a : Int) then (b : Int) else (a : Int)) = ((Min.min a b : Nat) : Int) := by split <;> omega
  rw [this]; exact q
theorem CW.maxN {x y : Int} (a b : Nat) (q : Q (.int ((Max.max a b : Nat) : Int)) H) (hx : x = (a : Int) := by rfl) (hy : y = (b : Int) := by rfl) : CW B n (.builtin "max") [.int x, .int y] H Q := by
  subst hx hy
  refine CW.max ?_
  have : (if (b : Int) > (a : Int) then (b : Int) else (a : Int)) = ((Max.max a b : Nat) : Int) := by split <;> omega
  rw [this]; exact q
end

/-- how far two references begin alike -/
def alikeN (lo hi w : Nat) : Nat := if lo = 624 ∧ hi = 625 then 1 else if lo < 609 ∨ 615 < hi then 0 else if 611 < hi then 1 else if w = 0 ∧ lo = 609 then 2 else 3

theorem beq_dec (a b : Nat) : (a == b) = decide (a = b) := by
  by_cases h : a = b
  · subst h; simp
  · rw [beq_eq_false_iff_ne.mpr h, decide_eq_false h]

set_option maxHeartbeats 1000000 in
theorem alik_call {B : Wd} {n : Nat} {H : List O} {lo hi w : Nat} {f : Addr} (T : Top B) (hf : B.mg "_law_alike" = some (.ref f)) :
    CW B (n + 1) (.ref f) [.int lo, .int hi, .int w] H fun v H' => v = .int (alikeN lo hi w : Nat) ∧ H' = H := by
  obtain ⟨f', hf', F⟩ := T.alik
  rw [hf] at hf'; cases hf'
  refine CW.def T.ok T.there F rfl (fun q cd L _ => ?_) (by decide +kernel)
  have fin : ∀ {c : Nat}, alikeN lo hi w = c → ∃ u H2 G, (match Fl.ret (V.int (c : Int)) with | .ret u => u | _ => .none) = u ∧ H = H2 ++ G ∧ H.length ≤ H2.length ∧ ((∀ o ∈ H, o.Closed H.length) → ∀ o ∈ H2, o.Closed H2.length) ∧ u.Closed H2.length ∧ (u = .int (alikeN lo hi w : Nat) ∧ H2 = H) := fun {c} h => by
    subst h
    exact ret_pure (Q := fun v H2 => v = _ ∧ H2 = H) (fun k e => by cases e) ⟨[], by simp⟩ ⟨rfl, rfl⟩
  refine SW.cons <| ST.ite <| TW.andp (decide (lo = 624)) (decide (hi = 625)) ?_ ?_ ?_
  · exact TW.compare <| EW.name rfl <| EW.cint <| PW2.eqN lo 624 <| TV.bool ⟨beq_dec _ _, rfl⟩
  · exact TW.compare <| EW.name rfl <| EW.cint <| PW2.eqN hi 625 <| TV.bool ⟨beq_dec _ _, rfl⟩
  by_cases h1 : lo = 624 ∧ hi = 625
  · rw [decide_eq_true h1.1, decide_eq_true h1.2]
    exact SW.cons <| ST.ret <| EW.cint <| fin (c := 1) (if_pos h1)
  have e1 : (decide (lo = 624) && decide (hi = 625)) = false := by rw [← Bool.decide_and]; exact decide_eq_false h1
  rw [e1]
  refine SW.nil ?_
  refine SW.cons <| ST.ite <| TW.orp (decide (lo < 609)) (decide (615 < hi)) ?_ ?_ ?_
  · exact TW.compare <| EW.name rfl <| EW.cint <| PW2.ltN lo 609 <| TV.bool ⟨rfl, rfl⟩
  · exact TW.compare <| EW.name rfl <| EW.cint <| PW2.gtN hi 615 <| TV.bool ⟨rfl, rfl⟩
  by_cases h2 : lo < 609 ∨ 615 < hi
  · have e2 : (decide (lo < 609) || decide (615 < hi)) = true := by rw [← Bool.decide_or]; exact decide_eq_true h2
    rw [e2]
    exact SW.cons <| ST.ret <| EW.cint <| fin (c := 0) (by unfold alikeN; rw [if_neg h1, if_pos h2])
  have e2 : (decide (lo < 609) || decide (615 < hi)) = false := by rw [← Bool.decide_or]; exact decide_eq_false h2
  rw [e2]
  refine SW.nil ?_
  refine SW.cons <| ST.ite <| TW.compare <| EW.name rfl <| EW.cint <| PW2.gtN hi 611 <| TV.bool ?_
  by_cases h3 : 611 < hi
  · rw [decide_eq_true h3]
    exact SW.cons <| ST.ret <| EW.cint <| fin (c := 1) (by unfold alikeN; rw [if_neg h1, if_neg h2, if_pos h3])
  rw [decide_eq_false h3]
  refine SW.nil ?_
  refine SW.cons <| ST.ret <| EW.ifexp <| TW.andp (decide (w = 0)) (decide (lo = 609)) ?_ ?_ ?_
  · exact TW.compare <| EW.name rfl <| EW.cint <| PW2.eqN w 0 <| TV.bool ⟨beq_dec _ _, rfl⟩
  · exact TW.compare <| EW.name rfl <| EW.cint <| PW2.eqN lo 609 <| TV.bool ⟨beq_dec _ _, rfl⟩
  by_cases h4 : w = 0 ∧ lo = 609
  · rw [decide_eq_true h4.1, decide_eq_true h4.2]
    exact EW.cint <| fin (c := 2) (by unfold alikeN; rw [if_neg h1, if_neg h2, if_neg h3, if_pos h4])
  · have e4 : (decide (w = 0) && decide (lo = 609)) = false := by rw [← Bool.decide_and]; exact decide_eq_false h4
    rw [e4]
    exact EW.cint <| fin (c := 3) (by unfold alikeN; rw [if_neg h1, if_neg h2, if_neg h3, if_neg h4])

set_option maxHeartbeats 1000000 in
theorem comm_call {B : Wd} {n : Nat} {H : List O} {x y : List Nat} {f : Addr} (T : Top B) (hf : B.mg "_law_common" = some (.ref f)) (hx : x.length ≤ 100000) (hy : y.length ≤ 100000) :
    CW B (n + 1) (.ref f) [.str (S x), .str (S y)] H fun v H' => v = .int (lcp x y : Nat) ∧ H' = H := by
  obtain ⟨f', hf', F⟩ := T.comm
  rw [hf] at hf'; cases hf'
  have glen : Glob B "len" (.builtin "len") := globB (T.bi _ (by simp)) (by decide) (by rfl)
  have hle := lcp_le x y
  refine CW.def T.ok T.there F rfl (fun q cd L _ => ?_) (by decide +kernel)
  refine SW.cons <| ST.assign T.there <| EW.cint ?_
  refine SW.cons <| ST.while (fun k loc H' => ∃ j, k = lcp x y - j ∧ j ≤ lcp x y ∧ loc "k" = some (.int (j : Int)) ∧ loc "one" = some (.str (S x)) ∧ loc "other" = some (.str (S y)) ∧ H' = H) (lcp x y) ⟨0, rfl, Nat.zero_le _, rfl, rfl, rfl, rfl⟩ ?_
  rintro k loc H' ⟨j, rfl, hj, l1, l2, l3, rfl⟩
  have fin : j = lcp x y → FW B n (fenv commS q f cd L) (execs (commB.drop 2) (fenv commS q f cd L)) loc H' fun fl _ H2 => ∃ v H3 G, (match (generalizing := false) fl with | .ret u => u | _ => .none) = v ∧ H2 = H3 ++ G ∧ H'.length ≤ H3.length ∧ ((∀ o ∈ H', o.Closed H'.length) → ∀ o ∈ H3, o.Closed H3.length) ∧ v.Closed H3.length ∧ (v = .int (lcp x y : Nat) ∧ H3 = H') := fun hj => by
    subst hj
    refine SW.cons <| ST.ret <| EW.name l1 ?_
    exact ret_pure (Q := fun v H2 => v = .int (lcp x y : Nat) ∧ H2 = H') (fun k e => by cases e) ⟨[], by simp⟩ ⟨rfl, rfl⟩
  refine TW.and3 <| TW.compare <| EW.name l1 <| EW.call T.ok glen (.builtin _) <| EWs.cons <| EW.name l2 <| EWs.nil <| CW.lenS (by omega) <| PW2.ltN j x.length <| TV.bool ?_
  by_cases h1 : j < x.length
  · rw [decide_eq_true h1]
    refine TW.compare <| EW.name l1 <| EW.call T.ok glen (.builtin _) <| EWs.cons <| EW.name l3 <| EWs.nil <| CW.lenS (by omega) <| PW2.ltN j y.length <| TV.bool ?_
    by_cases h2 : j < y.length
    · rw [decide_eq_true h2]
      refine TW.compare <| EW.item <| EW.name l2 <| EW.name l1 <| PW2.itemN x j x[j] (by omega) (List.getElem?_eq_getElem h1) <| EW.item <| EW.name l3 <| EW.name l1 <| PW2.itemN y j y[j] (by omega) (List.getElem?_eq_getElem h2) <| PW2.eqs <| TV.bool ?_
      rw [S_beq]
      by_cases h3 : j = lcp x y
      · have hne : x[j] ≠ y[j] := by
          subst h3
          obtain ⟨a, b, ha, hb, hab⟩ := lcp_at x y h1 h2
          rw [List.getElem?_eq_getElem h1] at ha; rw [List.getElem?_eq_getElem h2] at hb
          cases ha; cases hb
          exact hab
        rw [decide_eq_false (show ¬ [x[j]] = [y[j]] from fun e => hne (by injection e))]
        exact SW.nil (fin h3)
      · have he : x[j] = y[j] := by
          obtain ⟨c, ha, hb⟩ := lcp_in x y j (by omega)
          rw [List.getElem?_eq_getElem h1] at ha; rw [List.getElem?_eq_getElem h2] at hb
          cases ha; exact (Option.some.inj hb).symm
        rw [decide_eq_true (show [x[j]] = [y[j]] by rw [he])]
        refine SW.cons <| ST.aug T.there l1 <| EW.cint <| PW2.iaddN j 1 ?_
        exact SW.nil ⟨lcp x y - (j + 1), by omega, j + 1, rfl, by omega, rfl, l2, l3, rfl⟩
    · rw [decide_eq_false h2]
      exact SW.nil (fin (by omega))
  · rw [decide_eq_false h1]
    exact SW.nil (fin (by omega))

/-- where two rows of numbers part, in signs -/
def placeN (w : Nat) (R1 R2 W : List Nat) : Nat :=
  (W.take (lcp R1 R2)).sum + if lcp R1 R2 = R1.length ∨ lcp R1 R2 = R2.length then 0 else alikeN (Min.min (R1.getD (lcp R1 R2) 0) (R2.getD (lcp R1 R2) 0)) (Max.max (R1.getD (lcp R1 R2) 0) (R2.getD (lcp R1 R2) 0)) w

set_option maxHeartbeats 2000000 in
theorem plac_call {B : Wd} {n : Nat} {H : List O} {x y W : List Nat} {w k1 k2 k3 : Nat} {f : Addr} (T : Top B) (hf : B.mg "_law_place" = some (.ref f)) (h1 : H[k1]? = some (natsO x)) (h2 : H[k2]? = some (natsO y)) (h3 : H[k3]? = some (natsO W)) (hx : x.length ≤ 1000) (hy : y.length ≤ 1000) (hW : W.length ≤ 1000) :
    CW B (n + 2) (.ref f) [.ref k1, .ref k2, .ref k3, .int w] H fun v H' => v = .int (placeN w x y W : Nat) ∧ H' = H := by
  obtain ⟨f', hf', F⟩ := T.plac
  rw [hf] at hf'; cases hf'
  obtain ⟨fa, hfa, Fa⟩ := T.alik
  have glen : Glob B "len" (.builtin "len") := globB (T.bi _ (by simp)) (by decide) (by rfl)
  have gsum : Glob B "sum" (.builtin "sum") := globB (T.bi _ (by simp)) (by decide) (by rfl)
  have gmin : Glob B "min" (.builtin "min") := globB (T.bi _ (by simp)) (by decide) (by rfl)
  have gmax : Glob B "max" (.builtin "max") := globB (T.bi _ (by simp)) (by decide) (by rfl)
  have hle := lcp_le x y
  refine CW.def T.ok T.there F rfl (fun q cd L _ => ?_) (by decide +kernel)
  refine SW.cons <| ST.assign T.there <| EW.cint ?_
  refine SW.cons <| ST.while (fun k loc H' => ∃ j, k = lcp x y - j ∧ j ≤ lcp x y ∧ loc "k" = some (.int (j : Int)) ∧ loc "one" = some (.ref k1) ∧ loc "other" = some (.ref k2) ∧ loc "widths" = some (.ref k3) ∧ loc "which" = some (.int (w : Int)) ∧ H' = H) (lcp x y) ⟨0, rfl, Nat.zero_le _, rfl, rfl, rfl, rfl, rfl, rfl⟩ ?_
  rintro k loc H' ⟨j, rfl, hj, l1, l2, l3, l4, l5, rfl⟩
  have fin : j = lcp x y → FW B (n + 1) (fenv placS q f cd L) (execs (placB.drop 2) (fenv placS q f cd L)) loc H' fun fl _ H2 => ∃ v H3 G, (match (generalizing := false) fl with | .ret u => u | _ => .none) = v ∧ H2 = H3 ++ G ∧ H'.length ≤ H3.length ∧ ((∀ o ∈ H', o.Closed H'.length) → ∀ o ∈ H3, o.Closed H3.length) ∧ v.Closed H3.length ∧ (v = .int (placeN w x y W : Nat) ∧ H3 = H') := fun hj => by
    have end_ : ∀ {c : Nat}, placeN w x y W = c → ∃ u H2 G, (match Fl.ret (V.int (c : Int)) with | .ret u => u | _ => .none) = u ∧ H' = H2 ++ G ∧ H'.length ≤ H2.length ∧ ((∀ o ∈ H', o.Closed H'.length) → ∀ o ∈ H2, o.Closed H2.length) ∧ u.Closed H2.length ∧ (u = .int (placeN w x y W : Nat) ∧ H2 = H') := fun {c} h => by
      subst h
      exact ret_pure (Q := fun v H2 => v = _ ∧ H2 = H') (fun k e => by cases e) ⟨[], by simp⟩ ⟨rfl, rfl⟩
    refine SW.cons <| ST.assign T.there <| EW.gc0 <| EW.call T.ok gsum (.builtin _) <| EWs.cons <| EW.sliceL (k := 0) <| EW.name l4 <| EW.name l1 ⟨k3, _, j, rfl, h3, rfl, by omega, by rw [List.length_map]; exact Nat.le_trans hW (by decide), ?_⟩
    rw [Int.toNat_natCast, ← List.map_take]
    refine EWs.nil <| CW.sum (is := (W.take j).map fun k : Nat => (k : Int)) (get_last _ _) (intsOf_nat _) ⟨⟨_, rfl⟩, fun k e => (by cases e), ?_⟩
    rw [sum_cast]
    refine SW.cons <| ST.ite <| TW.orp (decide (j = x.length)) (decide (j = y.length)) ?_ ?_ ?_
    · exact TW.compare <| EW.name l1 <| EW.call T.ok glen (.builtin _) <| EWs.cons <| EW.name l2 <| EWs.nil <| CW.lenN h1 (by omega) <| PW2.eqN j x.length <| TV.bool ⟨beq_dec _ _, rfl⟩
    · exact TW.compare <| EW.name l1 <| EW.call T.ok glen (.builtin _) <| EWs.cons <| EW.name l3 <| EWs.nil <| CW.lenN h2 (by omega) <| PW2.eqN j y.length <| TV.bool ⟨beq_dec _ _, rfl⟩
    by_cases hc : j = x.length ∨ j = y.length
    · have e2 : (decide (j = x.length) || decide (j = y.length)) = true := by rw [← Bool.decide_or]; exact decide_eq_true hc
      rw [e2]
      refine SW.cons <| ST.ret <| EW.name rfl <| end_ ?_
      unfold placeN; rw [← hj, if_pos hc]; rfl
    · have e2 : (decide (j = x.length) || decide (j = y.length)) = false := by rw [← Bool.decide_or]; exact decide_eq_false hc
      rw [e2]
      refine SW.nil ?_
      have g1 : x[j]? = some (x.getD j 0) := getD_some (by omega)
      have g2 : y[j]? = some (y.getD j 0) := getD_some (by omega)
      refine SW.cons <| ST.ret <| EW.binop <| EW.name rfl <| EW.call T.ok (.top hfa) Fa.callee <| EWs.cons <| EW.call T.ok gmin (.builtin _) <| EWs.cons <| EW.item <| EW.name l2 <| EW.name l1 <| PW2.itemI j _ h1 (by omega) g1 ?_
      refine EWs.cons <| EW.item <| EW.name l3 <| EW.name l1 <| PW2.itemI j _ h2 (by omega) g2 <| EWs.nil <| CW.minN (x.getD j 0) (y.getD j 0) ?_
      refine EWs.cons <| EW.call T.ok gmax (.builtin _) <| EWs.cons <| EW.item <| EW.name l2 <| EW.name l1 <| PW2.itemI j _ h1 (by omega) g1 ?_
      refine EWs.cons <| EW.item <| EW.name l3 <| EW.name l1 <| PW2.itemI j _ h2 (by omega) g2 <| EWs.nil <| CW.maxN (x.getD j 0) (y.getD j 0) ?_
      refine EWs.cons <| EW.name l5 <| EWs.nil <| CW.mono (CW.lift (alik_call (n := 0) T hfa) (by omega)) fun v H2 hv => ?_
      obtain ⟨rfl, e⟩ := hv; obtain rfl := e.symm
      refine PW2.addN _ _ <| end_ ?_
      unfold placeN; rw [← hj, if_neg hc]
  refine TW.and3 <| TW.compare <| EW.name l1 <| EW.call T.ok glen (.builtin _) <| EWs.cons <| EW.name l2 <| EWs.nil <| CW.lenN h1 (by omega) <| PW2.ltN j x.length <| TV.bool ?_
  by_cases hc1 : j < x.length
  · rw [decide_eq_true hc1]
    refine TW.compare <| EW.name l1 <| EW.call T.ok glen (.builtin _) <| EWs.cons <| EW.name l3 <| EWs.nil <| CW.lenN h2 (by omega) <| PW2.ltN j y.length <| TV.bool ?_
    by_cases hc2 : j < y.length
    · rw [decide_eq_true hc2]
      refine TW.compare <| EW.item <| EW.name l2 <| EW.name l1 <| PW2.itemI j x[j] h1 (by omega) (List.getElem?_eq_getElem hc1) <| EW.item <| EW.name l3 <| EW.name l1 <| PW2.itemI j y[j] h2 (by omega) (List.getElem?_eq_getElem hc2) <| PW2.eqN x[j] y[j] <| TV.bool ?_
      rw [beq_dec]
      by_cases hc3 : j = lcp x y
      · have hne : x[j] ≠ y[j] := by
          subst hc3
          obtain ⟨a, b, ha, hb, hab⟩ := lcp_at x y hc1 hc2
          rw [List.getElem?_eq_getElem hc1] at ha; rw [List.getElem?_eq_getElem hc2] at hb
          cases ha; cases hb
          exact hab
        rw [decide_eq_false hne]
        exact SW.nil (fin hc3)
      · have he : x[j] = y[j] := by
          obtain ⟨c, ha, hb⟩ := lcp_in x y j (by omega)
          rw [List.getElem?_eq_getElem hc1] at ha; rw [List.getElem?_eq_getElem hc2] at hb
          cases ha; exact (Option.some.inj hb).symm
        rw [decide_eq_true he]
        refine SW.cons <| ST.aug T.there l1 <| EW.cint <| PW2.iaddN j 1 ?_
        exact SW.nil ⟨lcp x y - (j + 1), by omega, j + 1, rfl, by omega, rfl, l2, l3, l4, l5, rfl⟩
    · rw [decide_eq_false hc2]
      exact SW.nil (fin (by omega))
  · rw [decide_eq_false hc1]
    exact SW.nil (fin (by omega))
end Mine

end
section
open PySem PySem.W PySem.Calls PyProof.Rows
set_option maxRecDepth 100000
namespace Mine

section
variable {B : Wd} {n : Nat} {env : Env} {loc : Loc} {H : List O}
theorem FW.closed {t : Sem Flow} {Q : Fl → Loc → List O → Prop} (h : FW B n env t loc H fun f l H' => (f.Closed H'.length ∧ Keep H H') → Q f l H') : FW B n env t loc H Q := fun A E s ρ QQ hA S L kk =>
  h A E s ρ QQ hA S L fun f f' l H' ρ' s' q r S' L' st' => kk f f' l H' ρ' s' (q ⟨by
    cases f with
    | ret v =>
      intro k e
      obtain ⟨v', _, r⟩ := r
      subst e
      obtain ⟨a, e, _⟩ := r
      rw [← S'.len]; exact (List.getElem?_eq_some_iff.mp e).1
    | _ => trivial, ⟨by
    obtain ⟨⟨m, e, _⟩, _⟩ := st'
    rw [← S.len, ← S'.len, e, List.length_append]; omega, fun _ => S'.closed⟩⟩) r S' L' st'

/-- a call whose end is told as it stands -/
theorem CW.def0 {f : Addr} {names : List Str} {body : List Stmt} {S : Scope} {vs : List V} {Q : V → List O → Prop} (W : B.Ok) (T : B.There) (F : Fn B f names body S) (hlen : vs.length = names.length)
    (h : ∀ q cd L, FW B n (fenv S q f cd L) (execs body (fenv S q f cd L)) (locOf names vs) H fun fl _ H' => ∃ v, fl = .ret v ∧ Q v H')
    (hk : kindsOk names S = true := by decide) (hn : names.Nodup := by decide) (hkind : S.kind = .function := by rfl) (hco : S.isCoroutine = false := by rfl) (hgen : S.isGenerator = false := by rfl) :
    CW B (n + 1) (.ref f) vs H Q :=
  CW.def W T F hlen (fun q cd L _ => FW.closed (FW.mono (h q cd L) fun fl _ H' hv hc => by
    obtain ⟨v, rfl, hq⟩ := hv
    exact ⟨v, H', [], rfl, by simp, hc.2.1, hc.2.2, hc.1, hq⟩)) hk hn hkind hco hgen

theorem get_mid (H G : List O) (o : O) : (H ++ o :: G)[H.length]? = some o := by simp
theorem set_mid (H G : List O) (o o' : O) : (H ++ o :: G).set H.length o' = H ++ o' :: G := by
  rw [List.set_append_right _ _ (Nat.le_refl _), Nat.sub_self, List.set_cons_zero]

theorem natsO_app (l m : List Nat) : O.list ((l.map fun k : Nat => V.int (k : Int)) ++ (m.map fun k : Nat => V.int (k : Int))) = natsO (l ++ m) := by unfold natsO; rw [List.map_append]

theorem set_in2 (H G R R' : List O) (o o' : O) : (H ++ o :: G ++ R ++ R').set H.length o' = H ++ o' :: (G ++ R ++ R') := by
  rw [List.append_assoc, List.append_assoc, List.cons_append, set_mid, List.append_assoc]
theorem CW.appendN {Q : V → List O → Prop} {k : Nat} {l : List Nat} {x : Int} (c : Nat) (T : B.There) (hk : H[k]? = some (natsO l)) (hl : l.length ≤ 1000000) (q : Q .none (H.set k (natsO (l ++ [c])))) (hx : x = (c : Int) := by rfl) : CW B n (.builtin "list.append") [.ref k, .int x] H Q := by
  subst hx
  refine CW.append T hk (by rw [List.length_map]; exact Nat.le_trans hl (by decide)) ?_
  rw [show (l.map fun k : Nat => V.int (k : Int)) ++ [V.int (c : Int)] = (l.map fun k : Nat => V.int (k : Int)) ++ ([c].map fun k : Nat => V.int (k : Int)) from rfl, natsO_app]
  exact q
theorem CW.extendN {Q : V → List O → Prop} {l m : List Nat} {k j : Nat} (T : B.There) (hk : H[k]? = some (natsO l)) (hj : H[j]? = some (natsO m)) (hl : l.length ≤ 1000000) (hm : m.length ≤ 1000000) (q : Q .none (H.set k (natsO (l ++ m)))) : CW B n (.builtin "list.extend") [.ref k, .ref j] H Q := by
  refine CW.extend T hk hj (by rw [List.length_map, List.length_map]; exact Nat.le_trans (Nat.add_le_add hl hm) (by decide)) ?_
  rw [natsO_app]
  exact q
theorem PW2.addlN {Q : V → List O → Prop} {l m : List Nat} {j k : Nat} (hj : H[j]? = some (natsO l)) (hk : H[k]? = some (natsO m)) (hl : l.length ≤ 1000000) (hm : m.length ≤ 1000000) (q : Q (.ref H.length) (H ++ [natsO (l ++ m)])) : PW2 B n (binaryOp .Add) (.ref j) (.ref k) H Q := by
  refine PW2.addl hj hk (by rw [List.length_map, List.length_map]; exact Nat.le_trans (Nat.add_le_add hl hm) (by decide)) ?_
  rw [natsO_app]; exact q
theorem EW.nats {Q : V → List O → Prop} {elts : List Expr} {pos : Pos} (l : List Nat) (h : constInts elts = some (l.map fun k : Nat => (k : Int))) (hl : l.length ≤ 1000) (q : Q (.ref H.length) (H ++ [natsO l])) : EW B n env loc (.List elts pos) H Q := by
  refine EW.ints h (by rw [List.length_map]; exact hl) ?_
  rw [List.map_map]; exact q
theorem PW2.mullN {Q : V → List O → Prop} {k : Nat} {x : Int} {a : Nat} (c : Nat) (hk : H[k]? = some (natsO [a])) (hc : c ≤ 1000000) (q : Q (.ref H.length) (H ++ [natsO (List.replicate c a)])) (hx : x = (c : Int) := by rfl) : PW2 B n (binaryOp .Mult) (.ref k) (.int x) H Q := by
  refine PW2.mull c hx hk hc ?_
  have : O.list (List.replicate c (V.int (a : Int))) = natsO (List.replicate c a) := by unfold natsO; rw [List.map_replicate]
  rw [this]; exact q
end

def spelledL : Nat → List Nat
  | 0 => [38, 60, 62, 34, 13, 10, 9]
  | 1 => [38, 60, 34, 13, 10, 9]
  | 2 => [38, 62, 34]
  | 3 => [38, 60, 62]
  | _ => [38, 60, 62, 13]
def seven : List Nat := [9, 10, 13, 38, 62, 60, 34]
theorem spelled_seven (w : Nat) : ∀ c ∈ spelledL w, c ∈ seven := by
  unfold spelledL; split <;> decide
theorem find_seven : ∀ c ∈ seven, Txt.find (Str.ofString "\t\n\r&><\"") (S [c]) = ((seven.idxOf c : Nat) : Int) := by decide +kernel

def rkS (w c : Nat) : Nat := if c ∈ spelledL w then 609 + seven.idxOf c else if c = 39 then 625 else 16 * c
def groupR (m k : Nat) : List Nat := [m / 8 ^ (2 - k) % 8 / 4, m / 8 ^ (2 - k) % 8 / 2 % 2, [0, 3, 1, 2].getD (m / 8 ^ (2 - k) % 8 % 2 + 2 * (m / 512 / 2 ^ (2 - k) % 2)) 0]
def kinds : List Nat := [0, 6, 3, 0, 4, 0, 2, 0, 1, 0, 5, 0, 7, 0, 0, 0]
def groupsR (m i : Nat) : List Nat := (List.range i).flatMap (groupR m)
def headR (m : Nat) : List Nat := [kinds.getD (m / 4096) 0] ++ groupsR m 3 ++ [0]
def nameR (w : Nat) (l : List Nat) : List Nat := if bareL l then l.map (16 * ·) else [624] ++ l.map (rkS w) ++ [624]
def ranksL (w m : Nat) (l : List Nat) : List Nat := headR m ++ nameR w l

theorem groupsR_succ (m i : Nat) : groupsR m (i + 1) = groupsR m i ++ groupR m i := by unfold groupsR; rw [List.range_succ, List.flatMap_append]; simp
theorem groupsR_len (m i : Nat) : (groupsR m i).length = 3 * i := by
  induction i with
  | zero => rfl
  | succ i ih => rw [groupsR_succ, List.length_append, ih]; simp [groupR]; omega
theorem headR_len (m : Nat) : (headR m).length = 11 := by unfold headR; rw [List.length_append, List.length_append, groupsR_len]; rfl

theorem rangeOf_get {b i : Nat} {v : V} (h : (rangeOf 0 (b : Int))[i]? = some v) : i < b ∧ v = .int (i : Int) := by
  unfold rangeOf at h
  rw [List.getElem?_map, Int.sub_zero, Int.toNat_natCast] at h
  by_cases hi : i < b
  · rw [List.getElem?_range hi] at h
    refine ⟨hi, ?_⟩
    have h : v = V.int (0 + (i : Int)) := (Option.some.inj h).symm
    rw [Int.zero_add] at h
    exact h
  · rw [List.getElem?_eq_none (by rw [List.length_range]; omega)] at h; cases h
theorem rangeOf_len (b : Nat) : (rangeOf 0 (b : Int)).length = b := by
  unfold rangeOf; rw [List.length_map, List.length_range]; omega

theorem ends {H A : List O} {l : List Nat} (h : ∃ G, A = H ++ G) : ∃ G k, V.ref A.length = .ref k ∧ A ++ [natsO l] = H ++ G ∧ (A ++ [natsO l])[k]? = some (natsO l) := by
  obtain ⟨G, rfl⟩ := h
  exact ⟨G ++ [natsO l], _, rfl, List.append_assoc _ _ _, get_last _ _⟩

set_option maxHeartbeats 4000000 in
theorem rank_call {B : Wd} {n : Nat} {H : List O} {m w : Nat} {l : List Nat} {f : Addr} (T : Top B) (hf : B.mg "_law_ranks" = some (.ref f)) (hm : m < 65536) (hl : l.length ≤ 1000) :
    CW B (n + 2) (.ref f) [.int m, .str (S l), .str (S (spelledL w))] H fun v H' => ∃ G k, v = .ref k ∧ H' = H ++ G ∧ H'[k]? = some (natsO (ranksL w m l)) := by
  obtain ⟨f', hf', F⟩ := T.rank
  rw [hf] at hf'; cases hf'
  obtain ⟨fb, hfb, Fb⟩ := T.bare
  have gran : Glob B "range" (.type "range") := globB T.ran (by decide) (by rfl)
  have gord : Glob B "ord" (.builtin "ord") := globB (T.bi _ (by simp)) (by decide) (by rfl)
  refine CW.def0 T.ok T.there F rfl (fun q cd L => ?_) (by decide +kernel)
  refine SW.cons ?_
  with_reducible refine ST.assign T.there ?_ ?_ ?_
  rotate_left
  · rfl
  · rfl
  with_reducible refine EW.list ?_
  with_reducible refine EWs.cons ?_ ?_
  rotate_left
  · rfl
  with_reducible refine EW.item ?_
  with_reducible refine EW.nats kinds ?_ ?_ ?_
  · rfl
  · decide
  refine EW.binop <| EW.name rfl <| EW.cint <| PW2.divN m 4096 (by decide) (by decide) <| PW2.itemI (m / 4096) (kinds.getD (m / 4096) 0) (get_last H _) (by decide) (getD_some (by show m / 4096 < 16; omega)) ?_
  refine EWs.nil ⟨by simp; exact (by decide : 1 ≤ sizeLine), ?_⟩
  rw [show O.list [V.int ((kinds.getD (m / 4096) 0 : Nat) : Int)] = natsO ([kinds.getD (m / 4096) 0] ++ groupsR m 0) from rfl]
  generalize hH1 : H ++ [natsO kinds] = H1 at *
  have ext : ∃ G, H1 = H ++ G := ⟨_, hH1.symm⟩
  clear hH1
  refine SW.cons <| ST.for T.there <| EW.call T.ok gran (.type _) <| EWs.cons <| EW.cint <| EWs.nil <| CW.range1 ?_
  refine ⟨rangeOf 0 ((3 : Nat) : Int), fun _ => True, fun i loc H' => i ≤ 3 ∧ loc "mode" = some (.int (m : Int)) ∧ loc "name" = some (.str (S l)) ∧ loc "spelled" = some (.str (S (spelledL w))) ∧ loc "ranks" = some (.ref H1.length) ∧ ∃ G, H' = H1 ++ natsO ([kinds.getD (m / 4096) 0] ++ groupsR m i) :: G,
    IT.range (get_last _ _) (by decide), ⟨Nat.zero_le _, rfl, rfl, rfl, rfl, [.range 0 3], List.append_assoc _ _ _⟩, fun _ _ _ _ => trivial, ?_, ?_⟩
  · rintro i v loc H' hv ⟨hi, l1, l2, l3, l4, G, rfl⟩
    obtain ⟨hi3, rfl⟩ := rangeOf_get hv
    have ht : i ≤ 2 := by omega
    have h8 : 0 < 8 ^ (2 - i) := Nat.pow_pos (by decide)
    have h8' : 8 ^ (2 - i) ≤ 64 := Nat.pow_le_pow_right (by decide) (show 2 - i ≤ 2 by omega)
    have h2 : 0 < 2 ^ (2 - i) := Nat.pow_pos (by decide)
    have h2' : 2 ^ (2 - i) ≤ 4 := Nat.pow_le_pow_right (by decide) (show 2 - i ≤ 2 by omega)
    have hd : m / 8 ^ (2 - i) % 8 < 8 := Nat.mod_lt _ (by decide)
    have ha : m / 512 / 2 ^ (2 - i) % 2 < 2 := Nat.mod_lt _ (by decide)
    have hgl := groupsR_len m i
    refine AW.name T.there ?_
    have e1 : upd loc "k" (V.int (i : Int)) "mode" = some (.int (m : Int)) := l1
    have e2 : upd loc "k" (V.int (i : Int)) "name" = some (.str (S l)) := l2
    have e3 : upd loc "k" (V.int (i : Int)) "spelled" = some (.str (S (spelledL w))) := l3
    have e4 : upd loc "k" (V.int (i : Int)) "ranks" = some (.ref H1.length) := l4
    have e5 : upd loc "k" (V.int (i : Int)) "k" = some (.int (i : Int)) := rfl
    generalize upd loc "k" (V.int (i : Int)) = loc1 at *
    refine SW.cons <| ST.assign T.there <| EW.binop <| EW.binop <| EW.name e1 <| EW.binop <| EW.cint <| EW.binop <| EW.cint <| EW.name e5 <| PW2.subN 2 i ht <| PW2.powN 8 (2 - i) ?_ <| PW2.divN m (8 ^ (2 - i)) h8 (by omega) <| EW.cint <| PW2.modN (m / 8 ^ (2 - i)) 8 (by decide) ?_
    · have : (Builtin.Int.intBits ((8 : Nat) : Int) : Int) = 4 := by decide
      rw [this]; omega
    refine SW.cons <| ST.assign T.there <| EW.binop <| EW.binop <| EW.binop <| EW.name e1 <| EW.cint <| PW2.divN m 512 (by decide) (by decide) <| EW.binop <| EW.cint <| EW.binop <| EW.cint <| EW.name e5 <| PW2.subN 2 i ht <| PW2.powN 2 (2 - i) ?_ <| PW2.divN (m / 512) (2 ^ (2 - i)) h2 (by omega) <| EW.cint <| PW2.modN (m / 512 / 2 ^ (2 - i)) 2 (by decide) ?_
    · have : (Builtin.Int.intBits ((2 : Nat) : Int) : Int) = 2 := by decide
      rw [this]; omega
    have hg : groupR m i = [m / 8 ^ (2 - i) % 8 / 4, m / 8 ^ (2 - i) % 8 / 2 % 2, [0, 3, 1, 2].getD (m / 8 ^ (2 - i) % 8 % 2 + 2 * (m / 512 / 2 ^ (2 - i) % 2)) 0] := rfl
    generalize m / 8 ^ (2 - i) % 8 = d at *
    generalize m / 512 / 2 ^ (2 - i) % 2 = a at *
    refine SW.cons <| ST.expr <| EW.meth PySem.F.plainAttrs_list PySem.F.slot_list_extend PySem.F.type_list_extend <| EW.name e4 ⟨⟨_, get_mid _ _ _, rfl⟩, EWs.cons <| EW.list <| EWs.cons <| EW.binop <| EW.name rfl <| EW.cint <| PW2.divN d 4 (by decide) (by decide) ?_⟩
    refine EWs.cons <| EW.binop <| EW.binop <| EW.name rfl <| EW.cint <| PW2.divN d 2 (by decide) (by decide) <| EW.cint <| PW2.modN (d / 2) 2 (by decide) ?_
    refine EWs.cons <| EW.item <| EW.nats [0, 3, 1, 2] rfl (by decide) <| EW.binop <| EW.binop <| EW.name rfl <| EW.cint <| PW2.modN d 2 (by decide) <| EW.binop <| EW.cint <| EW.name rfl <| PW2.mulN 2 a (IntMulOk.of_left (by decide)) <| PW2.addN (d % 2) (2 * a) <| PW2.itemI (d % 2 + 2 * a) ([0, 3, 1, 2].getD (d % 2 + 2 * a) 0) (get_last _ _) (by decide) (getD_some (by show d % 2 + 2 * a < 4; omega)) ?_
    refine EWs.nil ⟨by simp; exact (by decide : 3 ≤ sizeLine), EWs.nil <| CW.extendN (l := [kinds.getD (m / 4096) 0] ++ groupsR m i) (m := groupR m i) T.there (getElem?_app (getElem?_app (get_mid _ _ _))) ?_ ?_ ?_ ?_⟩
    · rw [hg]; exact get_last _ _
    · rw [List.length_append, hgl]; show 1 + 3 * i ≤ 1000000; omega
    · rw [hg]; show 3 ≤ 1000000; decide
    refine SW.nil ⟨by omega, e1, e2, e3, e4, G ++ [natsO [0, 3, 1, 2]] ++ [O.list [.int ((d / 4 : Nat) : Int), .int ((d / 2 % 2 : Nat) : Int), .int (([0, 3, 1, 2].getD (d % 2 + 2 * a) 0 : Nat) : Int)]], ?_⟩
    rw [set_in2, groupsR_succ, List.append_assoc]
  · rintro loc H' ⟨_, l1, l2, l3, l4, G, rfl⟩
    rw [rangeOf_len]
    have hgl := groupsR_len m 3
    refine SW.nil ?_
    refine SW.cons <| ST.expr <| EW.meth PySem.F.plainAttrs_list PySem.F.slot_list_append PySem.F.type_list_append <| EW.name l4 ⟨⟨_, get_mid _ _ _, rfl⟩, EWs.cons <| EW.cint <| EWs.nil <| CW.appendN 0 T.there (get_mid _ _ _) (by rw [List.length_append, hgl]; show 1 + 9 ≤ 1000000; decide) ?_⟩
    rw [set_mid, show [kinds.getD (m / 4096) 0] ++ groupsR m 3 ++ [0] = headR m from rfl]
    have hhl := headR_len m
    refine SW.cons <| ST.ite <| TW.plain <| EW.call T.ok (.top hfb) Fb.callee <| EWs.cons <| EW.name l2 <| EWs.nil <| CW.mono (CW.lift (bare_call (n := 0) T hfb (by omega)) (by omega)) fun v H2 hv => ?_
    obtain ⟨rfl, e⟩ := hv; obtain rfl := e.symm
    refine TV.bool ?_
    cases hb : bareL l with
    | true =>
      refine SW.cons <| ST.ret <| EW.binop <| EW.name l4 <| EW.comp T.there <| EW.name l2 ?_
      refine ⟨signs (S l), fun _ => True, fun i acc H2 => H2 = H1 ++ natsO (headR m) :: G ∧ acc = ((l.take i).map (16 * ·)).map fun k : Nat => V.int (k : Int), IT.str, by rw [signs_len]; exact Nat.le_trans hl (by decide), ⟨rfl, rfl⟩, ?_, ?_, ?_⟩
      · rintro i acc H2 ⟨rfl, rfl⟩
        exact ⟨trivial, by rw [List.length_map, List.length_map, List.length_take]; omega⟩
      · rintro i v acc H2 C hv ⟨rfl, rfl⟩
        obtain ⟨c, hc, rfl⟩ := signs_S l i v hv
        refine AW.name T.there ⟨locC_upd rfl, ?_⟩
        refine EW.binop <| EW.cint <| EW.call T.ok gord (.builtin _) <| EWs.cons <| EW.name rfl <| EWs.nil <| CW.ord rfl <| PW2.mulN 16 c (IntMulOk.of_left (by decide)) ⟨rfl, ?_⟩
        rw [List.take_add_one, hc, List.map_append, List.map_append]; rfl
      · rintro acc H2 ⟨rfl, rfl⟩
        rw [signs_len, List.take_length]
        refine PW2.addlN (l := headR m) (m := l.map (16 * ·)) (getElem?_app (get_mid _ _ _)) (get_last _ _) (by omega) (by rw [List.length_map]; omega) ?_
        have hr : headR m ++ l.map (16 * ·) = ranksL w m l := by unfold ranksL nameR; rw [if_pos hb]
        rw [hr]
        obtain ⟨G1, rfl⟩ := ext
        exact ⟨_, rfl, ends ⟨G1 ++ natsO (headR m) :: G ++ [O.list ((l.map (16 * ·)).map fun k : Nat => V.int (k : Int))], by rw [← List.append_assoc, ← List.append_assoc]⟩⟩
    | false =>
      refine SW.nil ?_
      refine SW.cons <| ST.expr <| EW.meth PySem.F.plainAttrs_list PySem.F.slot_list_append PySem.F.type_list_append <| EW.name l4 ⟨⟨_, get_mid _ _ _, rfl⟩, EWs.cons <| EW.cint <| EWs.nil <| CW.appendN 624 T.there (get_mid _ _ _) (by omega) ?_⟩
      rw [set_mid]
      refine SW.cons <| ST.for T.there <| EW.name l2 ?_
      refine ⟨signs (S l), fun _ => True, fun i loc H' => loc "spelled" = some (.str (S (spelledL w))) ∧ loc "ranks" = some (.ref H1.length) ∧ ∃ G, H' = H1 ++ natsO (headR m ++ [624] ++ (l.take i).map (rkS w)) :: G, IT.str, ⟨l3, l4, G, by simp⟩, fun _ _ _ _ => trivial, ?_, ?_⟩
      · rintro i v loc H' hv ⟨l3, l4, G, rfl⟩
        obtain ⟨c, hc, rfl⟩ := signs_S l i v hv
        refine AW.name T.there ?_
        have e3 : upd loc "sign" (V.str (S [c])) "spelled" = some (.str (S (spelledL w))) := l3
        have e4 : upd loc "sign" (V.str (S [c])) "ranks" = some (.ref H1.length) := l4
        have e5 : upd loc "sign" (V.str (S [c])) "sign" = some (.str (S [c])) := rfl
        generalize upd loc "sign" (V.str (S [c])) = loc1 at *
        have hlen : (headR m ++ [624] ++ (l.take i).map (rkS w)).length ≤ 1000000 := by
          rw [List.length_append, List.length_append, List.length_map, List.length_take, hhl]; show 11 + 1 + _ ≤ _; omega
        have hnext : headR m ++ [624] ++ (l.take (i + 1)).map (rkS w) = headR m ++ [624] ++ (l.take i).map (rkS w) ++ [rkS w c] := by
          rw [List.take_add_one, hc, List.map_append, ← List.append_assoc]; rfl
        refine SW.cons <| ST.ite <| TW.compare <| EW.name e5 <| EW.name e3 <| PW2.ins <| TV.bool ?_
        rw [in_S]
        by_cases hs : c ∈ spelledL w
        · rw [decide_eq_true hs]
          refine SW.cons <| ST.expr <| EW.meth PySem.F.plainAttrs_list PySem.F.slot_list_append PySem.F.type_list_append <| EW.name e4 ⟨⟨_, get_mid _ _ _, rfl⟩, EWs.cons <| EW.binop <| EW.cint <| EW.meth PySem.F.plainAttrs_str PySem.F.slot_str_find PySem.F.type_str_find <| EW.cstr ⟨rfl, EWs.cons <| EW.name e5 <| EWs.nil <| CW.find ?_⟩⟩
          refine PW2.addN 609 (seven.idxOf c) (EWs.nil <| CW.appendN (609 + seven.idxOf c) T.there (get_mid _ _ _) hlen ?_) rfl (find_seven c (spelled_seven w c hs))
          rw [set_mid]
          refine SW.nil <| SW.nil ⟨e3, e4, G, ?_⟩
          rw [hnext, show rkS w c = 609 + seven.idxOf c by unfold rkS; rw [if_pos hs]]
        · rw [decide_eq_false hs]
          refine SW.cons <| ST.expr <| EW.meth PySem.F.plainAttrs_list PySem.F.slot_list_append PySem.F.type_list_append <| EW.name e4 ⟨⟨_, get_mid _ _ _, rfl⟩, EWs.cons <| EW.ifexp <| TW.compare <| EW.name e5 <| EW.cstr <| PW2.eqs <| TV.bool ?_⟩
          rw [show (Str.ofString "'") = S [39] from rfl, S_beq]
          by_cases h39 : c = 39
          · rw [decide_eq_true (show [c] = [39] by rw [h39])]
            refine EW.cint <| EWs.nil <| CW.appendN 625 T.there (get_mid _ _ _) hlen ?_
            rw [set_mid]
            refine SW.nil <| SW.nil ⟨e3, e4, G, ?_⟩
            rw [hnext, show rkS w c = 625 by unfold rkS; rw [if_neg hs, if_pos h39]]
          · rw [decide_eq_false (show ¬ [c] = [39] from fun e => h39 (by injection e))]
            refine EW.binop <| EW.cint <| EW.call T.ok gord (.builtin _) <| EWs.cons <| EW.name e5 <| EWs.nil <| CW.ord rfl <| PW2.mulN 16 c (IntMulOk.of_left (by decide)) <| EWs.nil <| CW.appendN (16 * c) T.there (get_mid _ _ _) hlen ?_
            rw [set_mid]
            refine SW.nil <| SW.nil ⟨e3, e4, G, ?_⟩
            rw [hnext, show rkS w c = 16 * c by unfold rkS; rw [if_neg hs, if_neg h39]]
      · rintro loc H' ⟨l3, l4, G, rfl⟩
        rw [signs_len, List.take_length]
        refine SW.nil ?_
        refine SW.cons <| ST.ret <| EW.binop <| EW.name l4 <| EW.nats [624] rfl (by decide) <| PW2.addlN (l := headR m ++ [624] ++ l.map (rkS w)) (m := [624]) (getElem?_app (get_mid _ _ _)) (get_last _ _) ?_ (by decide) ?_
        · rw [List.length_append, List.length_append, List.length_map, hhl]; show 11 + 1 + _ ≤ _; omega
        have hr : headR m ++ [624] ++ l.map (rkS w) ++ [624] = ranksL w m l := by unfold ranksL nameR; rw [if_neg (by rw [hb]; decide)]; simp
        rw [hr]
        obtain ⟨G1, rfl⟩ := ext
        exact ⟨_, rfl, ends ⟨G1 ++ natsO (headR m ++ [624] ++ l.map (rkS w)) :: G ++ [natsO [624]], by rw [← List.append_assoc, ← List.append_assoc]⟩⟩
end Mine

end
section
open PySem PySem.W PySem.Calls PyProof.Rows
set_option maxRecDepth 100000
namespace Mine

def wdS (w c : Nat) : Nat := if c = 39 then (if 34 ∈ spelledL w then 15 else 5) else if c ∈ spelledL w then (if c ∈ [60, 62] then 4 else if c = 34 then 6 else 5) else 1
def moreN (m : Nat) : Nat := if known m then 0 else 1
def headW (m : Nat) : List Nat := [1 + moreN m] ++ List.replicate 9 1 ++ [1 + moreN m]
def nameW (w : Nat) (l : List Nat) : List Nat := if bareL l then List.replicate l.length 1 else [1] ++ l.map (wdS w) ++ [1]
def widthsL (w m : Nat) (l : List Nat) : List Nat := headW m ++ nameW w l
theorem headW_len (m : Nat) : (headW m).length = 11 := by simp [headW]

set_option maxHeartbeats 4000000 in
theorem wid_call {B : Wd} {n : Nat} {H : List O} {m w : Nat} {l : List Nat} {f : Addr} (T : Top B) (hf : B.mg "_law_widths" = some (.ref f)) (hl : l.length ≤ 1000) :
    CW B (n + 2) (.ref f) [.int m, .str (S l), .str (S (spelledL w))] H fun v H' => ∃ G k, v = .ref k ∧ H' = H ++ G ∧ H'[k]? = some (natsO (widthsL w m l)) := by
  obtain ⟨f', hf', F⟩ := T.wid
  rw [hf] at hf'; cases hf'
  obtain ⟨fb, hfb, Fb⟩ := T.bare
  have glen : Glob B "len" (.builtin "len") := globB (T.bi _ (by simp)) (by decide) (by rfl)
  have hhl := headW_len m
  refine CW.def0 T.ok T.there F rfl (fun q cd L => ?_) (by decide +kernel)
  refine SW.cons ?_
  with_reducible refine ST.assign T.there ?_ ?_ ?_
  rotate_left
  · rfl
  · rfl
  refine EW.ifexp <| TW.compare <| EW.binop <| EW.name rfl <| EW.cint <| PW2.divN m 4096 (by decide) (by decide) <| EW.nats [1, 2, 4, 6, 8, 10, 12] rfl (by decide) <| PW2.inl (is := ([1, 2, 4, 6, 8, 10, 12] : List Nat).map fun k : Nat => (k : Int)) (get_last H _) (intsOf_nat _) <| TV.bool ?_
  rw [any_cast, show (([1, 2, 4, 6, 8, 10, 12] : List Nat).any fun x => x == m / 4096) = known m from rfl]
  have rest : FW B (n + 1) (fenv widS q f cd L) (execs (widB.drop 1) (fenv widS q f cd L)) (upd (locOf ["mode", "name", "spelled"] [.int m, .str (S l), .str (S (spelledL w))]) "more" (.int (moreN m : Nat))) (H ++ [natsO [1, 2, 4, 6, 8, 10, 12]]) fun fl _ H' => ∃ v, fl = .ret v ∧ ∃ G k, v = .ref k ∧ H' = H ++ G ∧ H'[k]? = some (natsO (widthsL w m l)) := by
    refine SW.cons <| ST.assign T.there <| EW.binop <| EW.binop <| EW.list <| EWs.cons <| EW.binop <| EW.cint <| EW.name rfl <| PW2.addN 1 (moreN m) <| EWs.nil ⟨by simp; exact (by decide : 1 ≤ sizeLine), ?_⟩
    rw [show O.list [V.int ((1 + moreN m : Nat) : Int)] = natsO [1 + moreN m] from rfl]
    refine EW.binop <| EW.nats [1] rfl (by decide) <| EW.cint <| PW2.mullN 9 (get_last _ _) (by decide) <| PW2.addlN (l := [1 + moreN m]) (m := List.replicate 9 1) (getElem?_app (getElem?_app (get_last _ _))) (get_last _ _) (by show 1 ≤ 1000000; decide) (by decide) ?_
    refine EW.list <| EWs.cons <| EW.binop <| EW.cint <| EW.name rfl <| PW2.addN 1 (moreN m) <| EWs.nil ⟨by simp; exact (by decide : 1 ≤ sizeLine), ?_⟩
    rw [show O.list [V.int ((1 + moreN m : Nat) : Int)] = natsO [1 + moreN m] from rfl]
    refine PW2.addlN (l := [1 + moreN m] ++ List.replicate 9 1) (m := [1 + moreN m]) (getElem?_app (get_last _ _)) (get_last _ _) (by rw [List.length_append]; show 1 + 9 ≤ 1000000; decide) (by show 1 ≤ 1000000; decide) ?_
    rw [show [1 + moreN m] ++ List.replicate 9 1 ++ [1 + moreN m] = headW m from rfl]
    have ext : ∃ G, H ++ [natsO [1, 2, 4, 6, 8, 10, 12]] ++ [natsO [1 + moreN m]] ++ [natsO [1]] ++ [natsO (List.replicate 9 1)] ++ [natsO ([1 + moreN m] ++ List.replicate 9 1)] ++ [natsO [1 + moreN m]] = H ++ G := ⟨_, by simp only [List.append_assoc]; rfl⟩
    generalize H ++ [natsO [1, 2, 4, 6, 8, 10, 12]] ++ [natsO [1 + moreN m]] ++ [natsO [1]] ++ [natsO (List.replicate 9 1)] ++ [natsO ([1 + moreN m] ++ List.replicate 9 1)] ++ [natsO [1 + moreN m]] = H1 at *
    refine SW.cons <| ST.ite <| TW.plain <| EW.call T.ok (.top hfb) Fb.callee <| EWs.cons <| EW.name rfl <| EWs.nil <| CW.mono (CW.lift (bare_call (n := 0) T hfb (by omega)) (by omega)) fun v H2 hv => ?_
    obtain ⟨rfl, e⟩ := hv; obtain rfl := e.symm
    refine TV.bool ?_
    cases hb : bareL l with
    | true =>
      refine SW.cons <| ST.ret <| EW.binop <| EW.name rfl <| EW.binop <| EW.nats [1] rfl (by decide) <| EW.call T.ok glen (.builtin _) <| EWs.cons <| EW.name rfl <| EWs.nil <| CW.lenS (by omega) <| PW2.mullN l.length (get_last _ _) (by omega) ?_
      refine PW2.addlN (l := headW m) (m := List.replicate l.length 1) (getElem?_app (getElem?_app (get_last _ _))) (get_last _ _) (by omega) (by rw [List.length_replicate]; omega) ?_
      have hr : headW m ++ List.replicate l.length 1 = widthsL w m l := by unfold widthsL nameW; rw [if_pos hb]
      rw [hr]
      obtain ⟨G1, rfl⟩ := ext
      exact ⟨_, rfl, ends ⟨G1 ++ [natsO (headW m)] ++ [natsO [1]] ++ [natsO (List.replicate l.length 1)], by simp only [List.append_assoc]⟩⟩
    | false =>
      refine SW.nil ?_
      refine SW.cons <| ST.expr <| EW.meth PySem.F.plainAttrs_list PySem.F.slot_list_append PySem.F.type_list_append <| EW.name rfl ⟨⟨_, get_last _ _, rfl⟩, EWs.cons <| EW.cint <| EWs.nil <| CW.appendN 1 T.there (get_last _ _) (by omega) ?_⟩
      rw [set_last]
      refine SW.cons <| ST.for T.there <| EW.name rfl ?_
      refine ⟨signs (S l), fun _ => True, fun i loc H' => loc "spelled" = some (.str (S (spelledL w))) ∧ loc "widths" = some (.ref H1.length) ∧ ∃ G, H' = H1 ++ natsO (headW m ++ [1] ++ (l.take i).map (wdS w)) :: G, IT.str, ⟨rfl, rfl, [], by simp⟩, fun _ _ _ _ => trivial, ?_, ?_⟩
      · rintro i v loc H' hv ⟨l3, l4, G, rfl⟩
        obtain ⟨c, hc, rfl⟩ := signs_S l i v hv
        refine AW.name T.there ?_
        have e3 : upd loc "sign" (V.str (S [c])) "spelled" = some (.str (S (spelledL w))) := l3
        have e4 : upd loc "sign" (V.str (S [c])) "widths" = some (.ref H1.length) := l4
        have e5 : upd loc "sign" (V.str (S [c])) "sign" = some (.str (S [c])) := rfl
        generalize upd loc "sign" (V.str (S [c])) = loc1 at *
        have hlen : (headW m ++ [1] ++ (l.take i).map (wdS w)).length ≤ 1000000 := by
          rw [List.length_append, List.length_append, List.length_map, List.length_take, hhl]; show 11 + 1 + _ ≤ _; omega
        have hnext : headW m ++ [1] ++ (l.take (i + 1)).map (wdS w) = headW m ++ [1] ++ (l.take i).map (wdS w) ++ [wdS w c] := by
          rw [List.take_add_one, hc, List.map_append, ← List.append_assoc]; rfl
        refine SW.cons <| ST.ite <| TW.compare <| EW.name e5 <| EW.cstr <| PW2.eqs <| TV.bool ?_
        rw [show (Str.ofString "'") = S [39] from rfl, S_beq]
        by_cases h39 : c = 39
        · rw [decide_eq_true (show [c] = [39] by rw [h39])]
          refine SW.cons <| ST.expr <| EW.meth PySem.F.plainAttrs_list PySem.F.slot_list_append PySem.F.type_list_append <| EW.name e4 ⟨⟨_, get_mid _ _ _, rfl⟩, EWs.cons <| EW.ifexp <| TW.compare <| EW.cstr <| EW.name e3 <| PW2.ins <| TV.bool ?_⟩
          rw [show (Str.ofString "\"") = S [34] from rfl, in_S]
          by_cases hq : 34 ∈ spelledL w
          · rw [decide_eq_true hq]
            refine EW.cint <| EWs.nil <| CW.appendN 15 T.there (get_mid _ _ _) hlen ?_
            rw [set_mid]
            refine SW.nil <| SW.nil ⟨e3, e4, G, ?_⟩
            rw [hnext, show wdS w c = 15 by unfold wdS; rw [if_pos h39, if_pos hq]]
          · rw [decide_eq_false hq]
            refine EW.cint <| EWs.nil <| CW.appendN 5 T.there (get_mid _ _ _) hlen ?_
            rw [set_mid]
            refine SW.nil <| SW.nil ⟨e3, e4, G, ?_⟩
            rw [hnext, show wdS w c = 5 by unfold wdS; rw [if_pos h39, if_neg hq]]
        · rw [decide_eq_false (show ¬ [c] = [39] from fun e => h39 (by injection e))]
          refine SW.cons <| ST.ite <| TW.compare <| EW.name e5 <| EW.name e3 <| PW2.ins <| TV.bool ?_
          rw [in_S]
          by_cases hs : c ∈ spelledL w
          · rw [decide_eq_true hs]
            refine SW.cons <| ST.expr <| EW.meth PySem.F.plainAttrs_list PySem.F.slot_list_append PySem.F.type_list_append <| EW.name e4 ⟨⟨_, get_mid _ _ _, rfl⟩, EWs.cons <| EW.ifexp <| TW.compare <| EW.name e5 <| EW.cstr <| PW2.ins <| TV.bool ?_⟩
            rw [show (Str.ofString "<>") = S [60, 62] from rfl, in_S]
            by_cases h4 : c ∈ [60, 62]
            · rw [decide_eq_true h4]
              refine EW.cint <| EWs.nil <| CW.appendN 4 T.there (get_mid _ _ _) hlen ?_
              rw [set_mid]
              refine SW.nil <| SW.nil <| SW.nil ⟨e3, e4, G, ?_⟩
              rw [hnext, show wdS w c = 4 by unfold wdS; rw [if_neg h39, if_pos hs, if_pos h4]]
            · rw [decide_eq_false h4]
              refine EW.ifexp <| TW.compare <| EW.name e5 <| EW.cstr <| PW2.eqs <| TV.bool ?_
              rw [show (Str.ofString "\"") = S [34] from rfl, S_beq]
              by_cases h34 : c = 34
              · rw [decide_eq_true (show [c] = [34] by rw [h34])]
                refine EW.cint <| EWs.nil <| CW.appendN 6 T.there (get_mid _ _ _) hlen ?_
                rw [set_mid]
                refine SW.nil <| SW.nil <| SW.nil ⟨e3, e4, G, ?_⟩
                rw [hnext, show wdS w c = 6 by unfold wdS; rw [if_neg h39, if_pos hs, if_neg h4, if_pos h34]]
              · rw [decide_eq_false (show ¬ [c] = [34] from fun e => h34 (by injection e))]
                refine EW.cint <| EWs.nil <| CW.appendN 5 T.there (get_mid _ _ _) hlen ?_
                rw [set_mid]
                refine SW.nil <| SW.nil <| SW.nil ⟨e3, e4, G, ?_⟩
                rw [hnext, show wdS w c = 5 by unfold wdS; rw [if_neg h39, if_pos hs, if_neg h4, if_neg h34]]
          · rw [decide_eq_false hs]
            refine SW.cons <| ST.expr <| EW.meth PySem.F.plainAttrs_list PySem.F.slot_list_append PySem.F.type_list_append <| EW.name e4 ⟨⟨_, get_mid _ _ _, rfl⟩, EWs.cons <| EW.cint <| EWs.nil <| CW.appendN 1 T.there (get_mid _ _ _) hlen ?_⟩
            rw [set_mid]
            refine SW.nil <| SW.nil <| SW.nil ⟨e3, e4, G, ?_⟩
            rw [hnext, show wdS w c = 1 by unfold wdS; rw [if_neg h39, if_neg hs]]
      · rintro loc H' ⟨l3, l4, G, rfl⟩
        rw [signs_len, List.take_length]
        refine SW.nil ?_
        refine SW.cons <| ST.ret <| EW.binop <| EW.name l4 <| EW.nats [1] rfl (by decide) <| PW2.addlN (l := headW m ++ [1] ++ l.map (wdS w)) (m := [1]) (getElem?_app (get_mid _ _ _)) (get_last _ _) ?_ (by decide) ?_
        · rw [List.length_append, List.length_append, List.length_map, hhl]; show 11 + 1 + _ ≤ _; omega
        have hr : headW m ++ [1] ++ l.map (wdS w) ++ [1] = widthsL w m l := by unfold widthsL nameW; rw [if_neg (by rw [hb]; decide)]; simp
        rw [hr]
        obtain ⟨G1, rfl⟩ := ext
        exact ⟨_, rfl, ends ⟨G1 ++ natsO (headW m ++ [1] ++ l.map (wdS w)) :: G ++ [natsO [1]], by rw [← List.append_assoc, ← List.append_assoc]⟩⟩
  cases hk : known m with
  | true =>
    have e : moreN m = 0 := by unfold moreN; rw [hk]; rfl
    rw [e] at rest
    exact EW.cint rest
  | false =>
    have e : moreN m = 1 := by unfold moreN; rw [hk]; rfl
    rw [e] at rest
    exact EW.cint rest
end Mine

end
section
open PySem PySem.W PySem.Calls PyProof.Rows
set_option maxRecDepth 100000
namespace Mine
def tabD : Nat → List (Nat × List Nat)
  | 0 => [amp, ltt, gtt, quot, (13, [38, 35, 49, 51, 59]), (10, [38, 35, 49, 48, 59]), (9, [38, 35, 48, 57, 59])]
  | 1 => [amp, ltt, quot, (13, [38, 35, 120, 68, 59]), (10, [38, 35, 120, 65, 59]), (9, [38, 35, 120, 57, 59])]
  | 2 => [amp, gtt, quot]
  | 3 => [amp, ltt, gtt]
  | _ => [amp, ltt, gtt, (13, [38, 35, 120, 68, 59])]
/-- how a sign is written between quotes -/
def spell (w c : Nat) : List Nat := if c = 39 then [39] ++ tabF (tabD w) 34 ++ [39] ++ tabF (tabD w) 34 ++ [39] else tabF (tabD w) c
def newM (m b : Nat) : Nat := if m / 2 ^ b % 2 = 1 then m - 2 ^ b else m + 2 ^ b
theorem bit_le {m b : Nat} (h : m / 2 ^ b % 2 = 1) : 2 ^ b ≤ m := by
  rcases Nat.lt_or_ge m (2 ^ b) with h1 | h1
  · rw [Nat.div_eq_of_lt h1] at h; cases h
  · exact h1
def nineL (m : Nat) : List Nat := (List.range 9).map fun j => rightC m (1 + j)
def rowL (m : Nat) : List Nat := if known m then [types.getD (m / 4096) 0] ++ nineL m else [39, 63] ++ nineL m ++ [39]
theorem newM_lt {m b : Nat} (hm : m < 65536) (hb : b < 16) : newM m b < 65536 := by
  unfold newM
  split
  · exact Nat.lt_of_le_of_lt (Nat.sub_le _ _) hm
  · rename_i h
    -- the bit is not set: m + 2^b stays below 2^16
    have h2 : m / 2 ^ b % 2 = 0 := by omega
    have hlt : m / 2 ^ b < 2 ^ (16 - b) := by
      rw [Nat.div_lt_iff_lt_mul (Nat.pow_pos (by decide)), ← Nat.pow_add, show 16 - b + b = 16 by omega]; exact hm
    have hd : m / 2 ^ b + 1 < 2 ^ (16 - b) ∨ m / 2 ^ b + 1 = 2 ^ (16 - b) := by omega
    have hev : 2 ^ (16 - b) % 2 = 0 := by
      rw [show 16 - b = (15 - b) + 1 by omega, Nat.pow_succ]; omega
    have hd' : m / 2 ^ b + 1 < 2 ^ (16 - b) := by
      rcases hd with h | h
      · exact h
      · omega
    have h3 : m < 2 ^ b * (m / 2 ^ b + 1) := Nat.lt_mul_div_succ m (Nat.pow_pos (by decide))
    have h4 : 2 ^ b * (m / 2 ^ b + 1) + 2 ^ b = 2 ^ b * (m / 2 ^ b + 2) := by rw [Nat.mul_add, Nat.mul_add]; omega
    have h5 : 2 ^ b * (m / 2 ^ b + 2) ≤ 2 ^ b * 2 ^ (16 - b) := Nat.mul_le_mul_left _ (by omega)
    rw [← Nat.pow_add, show b + (16 - b) = 16 by omega] at h5
    have : (2 : Nat) ^ 16 = 65536 := rfl
    omega
/-! the tables -/
theorem tab_same (w c : Nat) : tabF (tabOf w) c = tabF (tabD w) c := by
  match w with
  | 0 => rfl
  | 1 =>
    unfold tabF tabOf tabD amp ltt quot
    simp only [List.lookup_cons, List.lookup_nil]
    by_cases h1 : c = 9
    · subst h1; rfl
    · by_cases h2 : c = 10
      · subst h2; rfl
      · by_cases h3 : c = 13
        · subst h3; rfl
        · rw [beq_eq_false_iff_ne.mpr h1, beq_eq_false_iff_ne.mpr h2, beq_eq_false_iff_ne.mpr h3]
  | 2 => rfl
  | 3 => rfl
  | k + 4 => rfl
theorem keys_bad (w : Nat) : ∀ p ∈ tabD w, safeCp p.1 = false ∧ p.1 ≠ 32 ∧ p.1 ≠ 39 ∧ p.1 ≠ 63 := by
  match w with
  | 0 => decide +kernel
  | 1 => decide +kernel
  | 2 => decide +kernel
  | 3 => decide +kernel
  | k + 4 =>
    have : tabD (k + 4) = tabD 4 := rfl
    rw [this]; decide +kernel
theorem lookup_none_of {t : List (Nat × List Nat)} {c : Nat} (h : ∀ p ∈ t, p.1 ≠ c) : t.lookup c = none := by
  induction t with
  | nil => rfl
  | cons p r ih =>
    rw [List.lookup_cons, beq_eq_false_iff_ne.mpr (Ne.symm (h p (.head _)))]
    exact ih fun q hq => h q (.tail _ hq)
theorem tabF_plain {w c : Nat} (h : ∀ p ∈ tabD w, p.1 ≠ c) : tabF (tabD w) c = [c] := by
  unfold tabF; rw [lookup_none_of h]
theorem tabF_safe {w c : Nat} (h : safeCp c = true) : tabF (tabD w) c = [c] :=
  tabF_plain fun p hp e => by have := (keys_bad w p hp).1; rw [e, h] at this; cases this
theorem tabF_32 (w : Nat) : tabF (tabD w) 32 = [32] := tabF_plain fun p hp => (keys_bad w p hp).2.1
theorem tabF_39 (w : Nat) : tabF (tabD w) 39 = [39] := tabF_plain fun p hp => (keys_bad w p hp).2.2.1
theorem tabF_63 (w : Nat) : tabF (tabD w) 63 = [63] := tabF_plain fun p hp => (keys_bad w p hp).2.2.2
theorem mapT_D (w : Nat) (l : List Nat) : mapT (tabOf w) l = mapT (tabD w) l := by
  unfold mapT
  induction l with
  | nil => rfl
  | cons c r ih => rw [List.flatMap_cons, List.flatMap_cons, ih, tab_same]
theorem mapT_app (t : List (Nat × List Nat)) (l m : List Nat) : mapT t (l ++ m) = mapT t l ++ mapT t m := by simp [mapT]
theorem mapT_cons (t : List (Nat × List Nat)) (c : Nat) (l : List Nat) : mapT t (c :: l) = tabF t c ++ mapT t l := by simp [mapT]
theorem mapT_glue (w : Nat) : ∀ ls : List (List Nat), mapT (tabD w) (glue [32] ls) = glue [32] (ls.map (mapT (tabD w)))
  | [] => rfl
  | [x] => rfl
  | x :: y :: r => by
    have ih := mapT_glue w (y :: r)
    show mapT (tabD w) (x ++ [32] ++ glue [32] (y :: r)) = _
    rw [mapT_app, mapT_app, ih, show mapT (tabD w) [32] = [32] by rw [mapT_cons, tabF_32]; rfl]; rfl
theorem mapT_safe {w : Nat} {l : List Nat} (h : l.all safeCp = true) : mapT (tabD w) l = l := by
  induction l with
  | nil => rfl
  | cons c r ih =>
    simp only [List.all_cons, Bool.and_eq_true] at h
    rw [mapT_cons, tabF_safe h.1, ih h.2]; rfl
/-! the name -/
def nameL (w : Nat) (l : List Nat) : List Nat := if bareL l then l else [39] ++ l.flatMap (spell w) ++ [39]
theorem safe39 : safeCp 39 = false := by decide +kernel
theorem spell_safe {w c : Nat} (h : safeCp c = true) : spell w c = [c] := by
  have h39 : c ≠ 39 := fun e => by rw [e, safe39] at h; cases h
  unfold spell; rw [if_neg h39, tabF_safe h]
theorem flat_safe {w : Nat} {l : List Nat} (h : l.all safeCp = true) : l.flatMap (spell w) = l := by
  induction l with
  | nil => rfl
  | cons c r ih =>
    simp only [List.all_cons, Bool.and_eq_true] at h
    rw [List.flatMap_cons, spell_safe h.1, ih h.2]; rfl
theorem mapT_sub (w : Nat) (l : List Nat) : mapT (tabD w) (sub1 39 [39, 34, 39, 34, 39] l) = l.flatMap (spell w) := by
  induction l with
  | nil => rfl
  | cons c r ih =>
    have e : sub1 39 [39, 34, 39, 34, 39] (c :: r) = (if c = 39 then [39, 34, 39, 34, 39] else [c]) ++ sub1 39 [39, 34, 39, 34, 39] r := by simp [sub1]
    rw [e, mapT_app, ih, List.flatMap_cons]
    congr 1
    unfold spell
    by_cases h : c = 39
    · rw [if_pos h, if_pos h]
      simp only [mapT_cons, tabF_39]
      simp [mapT]
    · rw [if_neg h, if_neg h, mapT_cons]; simp [mapT]
theorem any_all (l : List Nat) : (l.any fun c => !safeCp c) = !l.all safeCp := by
  induction l with
  | nil => rfl
  | cons c r ih => simp only [List.any_cons, List.all_cons, ih, Bool.not_and]
theorem name_is (w : Nat) (l : List Nat) : mapT (tabD w) (quoteL l) = nameL w l := by
  unfold quoteL nameL bareL
  by_cases h0 : l = []
  · subst h0
    simp only [List.length_nil, if_true, List.flatMap_nil]
    simp [mapT_cons, tabF_39]
    rfl
  · have h1 : ¬ l.length = 0 := fun e => h0 (List.length_eq_zero_iff.mp e)
    rw [if_neg h1, decide_eq_true h0, Bool.true_and, any_all]
    cases h : l.all safeCp with
    | true => simp only [Bool.not_true, Bool.false_eq_true, if_false, if_true]; exact mapT_safe h
    | false =>
      simp only [Bool.not_false, if_true, Bool.false_eq_true, if_false]
      rw [mapT_app, mapT_app, mapT_sub, show mapT (tabD w) [39] = [39] by rw [mapT_cons, tabF_39]; rfl]
/-! the row -/
def bitN (m k : Nat) : Nat := m / 2 ^ k % 2
theorem bitN_lt (m k : Nat) : bitN m k < 2 := Nat.mod_lt _ (by decide)
theorem and_bit (m k : Nat) : m &&& 2 ^ k = bitN m k * 2 ^ k := by
  have hl := bitN_lt m k
  have hb : m.testBit k = decide (bitN m k = 1) := Nat.testBit_eq_decide_div_mod_eq
  apply Nat.eq_of_testBit_eq
  intro i
  rw [Nat.testBit_and, Nat.testBit_two_pow]
  by_cases hi : k = i
  · subst hi
    rw [hb]
    rcases (by omega : bitN m k = 0 ∨ bitN m k = 1) with e | e
    · rw [e]; simp
    · rw [e]; simp
  · rw [decide_eq_false hi, Bool.and_false]
    rcases (by omega : bitN m k = 0 ∨ bitN m k = 1) with e | e
    · rw [e]; simp
    · rw [e, Nat.one_mul, Nat.testBit_two_pow, decide_eq_false hi]
/-- a sign of the row, by its bits -/
def signC (p x y : Nat) : Nat := if p % 3 = 1 then [45, 114].getD x 0 else if p % 3 = 2 then [45, 119].getD x 0 else (lastRow (thirdOf p)).getD (x + 2 * y) 0
theorem d4 (x : Nat) : x % 8 / 4 = x / 4 % 2 := by omega
theorem d2 (x : Nat) : x % 8 / 2 % 2 = x / 2 % 2 := by omega
theorem d1 (x : Nat) : x % 8 % 2 = x % 2 := Nat.mod_mod_of_dvd x (by decide)
theorem right_bits {m p : Nat} (h1 : 1 ≤ p) (h9 : p ≤ 9) : rightC m p = signC p (bitN m (9 - p)) (bitN m (12 - p / 3)) := by
  match p, h1, h9 with
  | 1, _, _ =>
    have : digitOf m 1 / 4 = bitN m 8 := by show m / 64 % 8 / 4 = m / 256 % 2; rw [d4, Nat.div_div_eq_div_mul]
    simp [rightC, signC, this]
  | 2, _, _ =>
    have : digitOf m 2 / 2 % 2 = bitN m 7 := by show m / 64 % 8 / 2 % 2 = m / 128 % 2; rw [d2, Nat.div_div_eq_div_mul]
    simp [rightC, signC, this]
  | 3, _, _ =>
    have : digitOf m 3 % 2 = bitN m 6 := d1 _
    have h2 : aboveOf m 3 = bitN m 11 := by show m / 512 / 4 % 2 = m / 2048 % 2; rw [Nat.div_div_eq_div_mul]
    simp [rightC, signC, this, h2]
  | 4, _, _ =>
    have : digitOf m 4 / 4 = bitN m 5 := by show m / 8 % 8 / 4 = m / 32 % 2; rw [d4, Nat.div_div_eq_div_mul]
    simp [rightC, signC, this]
  | 5, _, _ =>
    have : digitOf m 5 / 2 % 2 = bitN m 4 := by show m / 8 % 8 / 2 % 2 = m / 16 % 2; rw [d2, Nat.div_div_eq_div_mul]
    simp [rightC, signC, this]
  | 6, _, _ =>
    have : digitOf m 6 % 2 = bitN m 3 := d1 _
    have h2 : aboveOf m 6 = bitN m 10 := by show m / 512 / 2 % 2 = m / 1024 % 2; rw [Nat.div_div_eq_div_mul]
    simp [rightC, signC, this, h2]
  | 7, _, _ =>
    have : digitOf m 7 / 4 = bitN m 2 := by show m / 1 % 8 / 4 = m / 4 % 2; rw [d4, Nat.div_one]
    simp [rightC, signC, this]
  | 8, _, _ =>
    have : digitOf m 8 / 2 % 2 = bitN m 1 := by show m / 1 % 8 / 2 % 2 = m / 2 % 2; rw [d2, Nat.div_one]
    simp [rightC, signC, this]
  | 9, _, _ =>
    have : digitOf m 9 % 2 = bitN m 0 := d1 _
    have h2 : aboveOf m 9 = bitN m 9 := by show m / 512 / 1 % 2 = m / 512 % 2; rw [Nat.div_one]
    simp [rightC, signC, this, h2]
  | k + 10, _, h => exact absurd h (by omega)
/-- one right -/
theorem row_one {m k c i : Nat} (hi : i ≠ 0) : rowCh i m [(2 ^ k, c)] = if bitN m k = 1 then c else 45 := by
  have h := and_bit m k
  have hl := bitN_lt m k
  have hp : 0 < 2 ^ k := Nat.pow_pos (by decide)
  unfold rowCh hit
  simp only [if_neg hi, List.find?_cons, List.find?_nil, h]
  by_cases hb : bitN m k = 1
  · simp [hb]
  · have h0 : bitN m k = 0 := by omega
    have : (0 == 2 ^ k) = false := beq_eq_false_iff_ne.mpr (by omega)
    simp [h0, this]
/-- a right with a bit above -/
theorem row_two {m k j c1 c2 c3 i : Nat} (hi : i ≠ 0) (hkj : k < j) : rowCh i m [(2 ^ j + 2 ^ k, c1), (2 ^ j, c2), (2 ^ k, c3)] = [45, c3, c2, c1].getD (bitN m k + 2 * bitN m j) 0 := by
  have hk := and_bit m k
  have hj := and_bit m j
  have lk := bitN_lt m k
  have lj := bitN_lt m j
  have pk : 0 < 2 ^ k := Nat.pow_pos (by decide)
  have hlt : 2 ^ k < 2 ^ j := Nat.pow_lt_pow_right (by decide) hkj
  have hor : (2 ^ j + 2 ^ k : Nat) = 2 ^ j ||| 2 ^ k := by
    have := Nat.two_pow_add_eq_or_of_lt (i := j) (b := 2 ^ k) hlt 1
    simpa using this
  have hb : m &&& (2 ^ j + 2 ^ k) = bitN m j * 2 ^ j + bitN m k * 2 ^ k := by
    rw [hor, Nat.and_or_distrib_left, hj, hk]
    rcases (by omega : bitN m j = 0 ∨ bitN m j = 1) with e | e <;> rcases (by omega : bitN m k = 0 ∨ bitN m k = 1) with e' | e' <;> simp [e, e', hor]
  unfold rowCh hit
  simp only [if_neg hi, List.find?_cons, List.find?_nil, hb, hk, hj]
  rcases (by omega : bitN m j = 0 ∨ bitN m j = 1) with e | e <;> rcases (by omega : bitN m k = 0 ∨ bitN m k = 1) with e' | e'
  · have a1 : (0 == 2 ^ j + 2 ^ k) = false := beq_eq_false_iff_ne.mpr (by omega)
    have a2 : (0 == 2 ^ j) = false := beq_eq_false_iff_ne.mpr (by omega)
    have a3 : (0 == 2 ^ k) = false := beq_eq_false_iff_ne.mpr (by omega)
    simp [e, e', a1, a2, a3]
  · have a1 : (2 ^ k == 2 ^ j + 2 ^ k) = false := beq_eq_false_iff_ne.mpr (by omega)
    have a2 : (0 == 2 ^ j) = false := beq_eq_false_iff_ne.mpr (by omega)
    simp [e, e', a1, a2]
  · have a1 : (2 ^ j == 2 ^ j + 2 ^ k) = false := beq_eq_false_iff_ne.mpr (by omega)
    simp [e, e', a1]
  · simp [e, e']
theorem one_get {b c : Nat} (h : b < 2) : (if b = 1 then c else 45) = [45, c].getD b 0 := by
  rcases (by omega : b = 0 ∨ b = 1) with e | e <;> subst e <;> rfl
def kindC (m : Nat) : Nat := if known m then types.getD (m / 4096) 0 else 63
theorem and_kind {m : Nat} (h : m < 65536) : m &&& 61440 = m / 4096 * 4096 := by
  have e : (61440 : Nat) = 2 ^ 15 ||| 2 ^ 14 ||| 2 ^ 13 ||| 2 ^ 12 := by decide
  rw [e, Nat.and_or_distrib_left, Nat.and_or_distrib_left, Nat.and_or_distrib_left, and_bit, and_bit, and_bit, and_bit]
  have l15 := bitN_lt m 15
  have l14 := bitN_lt m 14
  have l13 := bitN_lt m 13
  have l12 := bitN_lt m 12
  have s : m / 4096 = bitN m 12 + 2 * bitN m 13 + 4 * bitN m 14 + 8 * bitN m 15 := by
    show m / 4096 = m / 4096 % 2 + 2 * (m / 8192 % 2) + 4 * (m / 16384 % 2) + 8 * (m / 32768 % 2)
    omega
  rw [s]
  generalize bitN m 15 = a at *
  generalize bitN m 14 = b at *
  generalize bitN m 13 = c at *
  generalize bitN m 12 = d at *
  clear s h e
  rcases (by omega : a = 0 ∨ a = 1) with e | e <;> rcases (by omega : b = 0 ∨ b = 1) with e' | e' <;> rcases (by omega : c = 0 ∨ c = 1) with e'' | e'' <;> rcases (by omega : d = 0 ∨ d = 1) with e''' | e''' <;> subst e e' e'' e''' <;> rfl
theorem kind_all : ∀ q : Fin 16, (match ([(40960, 108), (49152, 115), (32768, 45), (24576, 98), (16384, 100), (8192, 99), (4096, 112)] : List (Nat × Nat)).find? (fun p => q.1 * 4096 == p.1) with | some p => p.2 | none => 63) = if [1, 2, 4, 6, 8, 10, 12].any (· == q.1) then types.getD q.1 0 else 63 := by decide +kernel
theorem row_kind {m : Nat} (h : m < 65536) : rowCh 0 m [(40960, 108), (49152, 115), (32768, 45), (24576, 98), (16384, 100), (8192, 99), (4096, 112)] = kindC m := by
  have := kind_all ⟨m / 4096, by omega⟩
  unfold rowCh hit kindC known
  simp only [if_true, and_kind h]
  exact this
theorem fm_is {m : Nat} (h : m < 65536) : fmL m = kindC m :: nineL m := by
  have e : fmL m = [rowCh 0 m [(40960, 108), (49152, 115), (32768, 45), (24576, 98), (16384, 100), (8192, 99), (4096, 112)], rowCh 1 m [(2 ^ 8, 114)], rowCh 2 m [(2 ^ 7, 119)], rowCh 3 m [(2 ^ 11 + 2 ^ 6, 115), (2 ^ 11, 83), (2 ^ 6, 120)],
    rowCh 4 m [(2 ^ 5, 114)], rowCh 5 m [(2 ^ 4, 119)], rowCh 6 m [(2 ^ 10 + 2 ^ 3, 115), (2 ^ 10, 83), (2 ^ 3, 120)], rowCh 7 m [(2 ^ 2, 114)], rowCh 8 m [(2 ^ 1, 119)], rowCh 9 m [(2 ^ 9 + 2 ^ 0, 116), (2 ^ 9, 84), (2 ^ 0, 120)]] := rfl
  have e2 : nineL m = [rightC m 1, rightC m 2, rightC m 3, rightC m 4, rightC m 5, rightC m 6, rightC m 7, rightC m 8, rightC m 9] := rfl
  rw [e, e2, row_kind h, row_one (by decide), row_one (by decide), row_two (by decide) (by decide), row_one (by decide), row_one (by decide), row_two (by decide) (by decide), row_one (by decide), row_one (by decide), row_two (by decide) (by decide)]
  rw [one_get (bitN_lt _ _), one_get (bitN_lt _ _), one_get (bitN_lt _ _), one_get (bitN_lt _ _), one_get (bitN_lt _ _), one_get (bitN_lt _ _)]
  iterate 9 rw [right_bits (by decide) (by decide)]
  rfl
theorem signC_safe : ∀ p : Fin 10, ∀ x y : Fin 2, safeCp (signC p.1 x.1 y.1) = true := by decide +kernel
theorem right_safe {m p : Nat} (h1 : 1 ≤ p) (h9 : p ≤ 9) : safeCp (rightC m p) = true := by
  rw [right_bits h1 h9]
  exact signC_safe ⟨p, by omega⟩ ⟨_, bitN_lt _ _⟩ ⟨_, bitN_lt _ _⟩
theorem nine_safe (m : Nat) : (nineL m).all safeCp = true := by
  unfold nineL
  rw [List.all_map, List.all_eq_true]
  intro j hj
  have := List.mem_range.mp hj
  exact right_safe (by omega) (by omega)
theorem types_safe : ∀ q : Fin 16, ([1, 2, 4, 6, 8, 10, 12].any (· == q.1)) = true → safeCp (types.getD q.1 0) = true := by decide +kernel
theorem safe63 : safeCp 63 = false := by decide +kernel
theorem row_is {w m : Nat} (h : m < 65536) : mapT (tabD w) (quoteL (fmL m)) = rowL m := by
  rw [name_is, fm_is h]
  unfold nameL bareL rowL kindC
  have hn := nine_safe m
  cases hk : known m with
  | true =>
    have hs : safeCp (types.getD (m / 4096) 0) = true := types_safe ⟨m / 4096, by omega⟩ hk
    simp only [if_true, List.all_cons, hs, hn]
    simp
  | false =>
    simp only [Bool.false_eq_true, if_false, List.all_cons, safe63, Bool.false_and, Bool.and_false]
    rw [List.flatMap_cons, flat_safe hn]
    have : spell w 63 = [63] := by unfold spell; rw [if_neg (by decide), tabF_63]
    rw [this]; simp
/-! the page -/
def blockL (w : Nat) (f : File) : List Nat := rowL f.1 ++ [32] ++ nameL w f.2
def pageL (w : Nat) (fs : List File) : List Nat := glue [32] (fs.map (blockL w))
def wordsL (fs : List File) : List (List Nat) := fs.flatMap fun f => [fmL f.1, f.2]
theorem glue_pairs {α : Type} (a b : α → List Nat) : ∀ fs : List α, glue [32] (fs.flatMap fun f => [a f, b f]) = glue [32] (fs.map fun f => a f ++ [32] ++ b f)
  | [] => rfl
  | [f] => by simp [glue]
  | f :: g :: r => by
    have ih := glue_pairs a b (g :: r)
    show a f ++ [32] ++ (b f ++ [32] ++ glue [32] ((g :: r).flatMap fun f => [a f, b f])) = (a f ++ [32] ++ b f) ++ [32] ++ glue [32] ((g :: r).map fun f => a f ++ [32] ++ b f)
    rw [ih]; simp only [List.append_assoc]
theorem page_is {w : Nat} {fs : List File} (h : ∀ f ∈ fs, f.1 < 65536) : mapT (tabOf w) (glue [32] ((wordsL fs).map quoteL)) = pageL w fs := by
  rw [mapT_D, mapT_glue]
  have e : ((wordsL fs).map quoteL).map (mapT (tabD w)) = fs.flatMap fun f => [mapT (tabD w) (quoteL (fmL f.1)), mapT (tabD w) (quoteL f.2)] := by
    unfold wordsL
    clear h
    induction fs with
    | nil => rfl
    | cons f r ih => simp only [List.flatMap_cons, List.map_append, ih]; rfl
  rw [e, glue_pairs (fun f : File => mapT (tabD w) (quoteL (fmL f.1))) (fun f : File => mapT (tabD w) (quoteL f.2))]
  unfold pageL
  congr 1
  apply List.map_congr_left
  intro f hf
  rw [row_is (h f hf), name_is]; rfl
end Mine

end
section
open PySem PySem.W PySem.Calls PyProof.Rows
set_option maxRecDepth 100000
namespace Mine

theorem Files.relay {H : List O} {kf ks fs} (F : Files H kf ks fs) {ks' : List Nat} {fs' : List File} (G : List O) (hl : ks'.length = fs'.length) (hn : ks'.Nodup) (ho : kf ∉ ks')
    (hat : ∀ (i : Nat) f k, fs'[i]? = some f → ks'[i]? = some k → (H ++ G)[k]? = some (.list [.int (f.1 : Int), .str (S f.2)])) : Files ((H ++ G).set kf (.list (ks'.map V.ref))) kf ks' fs' := by
  have hkf := F.kf_lt
  refine ⟨by rw [List.getElem?_set_self (by rw [List.length_append]; omega)], hl, hn, ho, fun i f k hf hk => ?_⟩
  have hne : k ≠ kf := fun e => ho (e ▸ List.mem_of_getElem? hk)
  rw [List.getElem?_set_ne (Ne.symm hne)]
  exact hat i f k hf hk

/-- one file more -/
theorem Files.push {H : List O} {kf ks fs} (F : Files H kf ks fs) (m : Nat) (l : List Nat) : Files ((H ++ [pairO m l]).set kf (.list (ks.map V.ref ++ [V.ref H.length]))) kf (ks ++ [H.length]) (fs ++ [(m, l)]) := by
  have hn : H.length ∉ ks := fun h => absurd (F.lt _ h) (Nat.lt_irrefl _)
  have hl := F.len
  have := F.relay (ks' := ks ++ [H.length]) (fs' := fs ++ [(m, l)]) [pairO m l] (by simp [hl]) ?_ ?_ ?_
  · rw [List.map_append] at this; exact this
  · rw [List.nodup_append]
    refine ⟨F.nodup, by simp, fun a ha b hb => ?_⟩
    rw [List.mem_singleton.mp hb]; rintro rfl; exact hn ha
  · intro h
    rcases List.mem_append.mp h with h | h
    · exact F.out h
    · exact absurd (List.mem_singleton.mp h ▸ F.kf_lt) (Nat.lt_irrefl _)
  · intro i f k hf hk
    by_cases hi : i < ks.length
    · rw [List.getElem?_append_left hi] at hk
      rw [List.getElem?_append_left (by omega)] at hf
      exact getElem?_app (F.at_ i f k hf hk)
    · have hi2 : i = ks.length := by
        have := (List.getElem?_eq_some_iff.mp hk).1
        simp at this; omega
      subst hi2
      rw [List.getElem?_append_right (Nat.le_refl _), Nat.sub_self] at hk
      rw [List.getElem?_append_right (by omega), hl, Nat.sub_self] at hf
      simp at hk hf
      subst hk hf
      exact get_last _ _

/-- another file in a place -/
theorem Files.swap {H : List O} {kf ks fs} (F : Files H kf ks fs) (j m : Nat) (l : List Nat) : Files ((H ++ [pairO m l]).set kf (.list ((ks.map V.ref).set j (V.ref H.length)))) kf (ks.set j H.length) (fs.set j (m, l)) := by
  have hn : H.length ∉ ks := fun h => absurd (F.lt _ h) (Nat.lt_irrefl _)
  have hl := F.len
  have hmem : ∀ k, k ∈ ks.set j H.length → k ∈ ks ∨ k = H.length := fun k h => List.mem_or_eq_of_mem_set h
  have := F.relay (ks' := ks.set j H.length) (fs' := fs.set j (m, l)) [pairO m l] (by simp [hl]) ?_ ?_ ?_
  · rw [List.map_set] at this; exact this
  · rw [List.nodup_iff_pairwise_ne] at *
    have hp := List.pairwise_iff_getElem.mp F.nodup
    refine List.pairwise_iff_getElem.mpr fun a b ha hb hab => ?_
    rw [List.length_set] at ha hb
    rw [List.getElem_set, List.getElem_set]
    split
    · split
      · omega
      · intro e; exact hn (e ▸ List.getElem_mem _)
    · split
      · intro e; exact hn (e ▸ List.getElem_mem _)
      · exact hp a b ha hb hab
  · intro h
    rcases hmem _ h with h | h
    · exact F.out h
    · exact absurd (h ▸ F.kf_lt) (Nat.lt_irrefl _)
  · intro i f k hf hk
    by_cases hi : j = i
    · subst hi
      have hj : j < ks.length := by
        have := (List.getElem?_eq_some_iff.mp hk).1
        rwa [List.length_set] at this
      rw [List.getElem?_set_self hj] at hk
      rw [List.getElem?_set_self (by omega)] at hf
      cases hk; cases hf
      exact get_last _ _
    · rw [List.getElem?_set_ne hi] at hk hf
      exact getElem?_app (F.at_ i f k hf hk)

/-- the files of the law -/
def okF (i : Nat) (fs : List File) : Prop := 2 ≤ fs.length ∧ fs.length ≤ 6 ∧ ∀ f ∈ fs, f.1 < 65536 ∧ f.2.length ≤ 1 + i
theorem okF.push {i : Nat} {fs : List File} (h : okF i fs) (hl : fs.length < 6) {g : File} (hg : g.1 < 65536 ∧ g.2.length ≤ 1 + (i + 1)) : okF (i + 1) (fs ++ [g]) := by
  refine ⟨by simp; have := h.1; omega, by simp; omega, fun f hf => ?_⟩
  rcases List.mem_append.mp hf with hf | hf
  · have := h.2.2 f hf; exact ⟨this.1, by omega⟩
  · rw [List.mem_singleton.mp hf]; exact hg
theorem okF.swap {i j : Nat} {fs : List File} (h : okF i fs) {g : File} (hg : g.1 < 65536 ∧ g.2.length ≤ 1 + (i + 1)) : okF (i + 1) (fs.set j g) := by
  refine ⟨by rw [List.length_set]; exact h.1, by rw [List.length_set]; exact h.2.1, fun f hf => ?_⟩
  rcases List.mem_or_eq_of_mem_set hf with hf | rfl
  · have := h.2.2 f hf; exact ⟨this.1, by omega⟩
  · exact hg

def signLits : List Nat := (Str.ofString "'%&<>\"\r\n\t a?(b\\+!_").cps.toList
theorem bxor_pow (m b : Nat) : Builtin.bitXor (m : Int) ((2 ^ b : Nat) : Int) = ((newM m b : Nat) : Int) := by
  rw [bitXor_and, band_nat, and_bit]
  have hl := bitN_lt m b
  have hle : m / 2 ^ b % 2 = 1 → 2 ^ b ≤ m := bit_le
  have hb : bitN m b = m / 2 ^ b % 2 := rfl
  unfold newM
  by_cases h : m / 2 ^ b % 2 = 1
  · have h1 := hle h
    rw [if_pos h, hb, h]
    omega
  · have h0 : bitN m b = 0 := by omega
    rw [if_neg h, h0]
    omega

set_option maxHeartbeats 4000000 in
theorem file_call {B : Wd} {n : Nat} {H : List O} {kn : Nat} {ns : List Int} {f : Addr} (T : Top B) (hf : B.mg "_law_files" = some (.ref f)) (hkn : H[kn]? = some (.list (ns.map V.int))) (hns : ns.length ≤ 14) :
    CW B (n + 2) (.ref f) [.ref kn] H fun v H' => ∃ G kf ks fs, v = .ref kf ∧ H' = H ++ G ∧ Files H' kf ks fs ∧ okF ns.length fs := by
  obtain ⟨f', hf', F⟩ := T.file
  rw [hf] at hf'; cases hf'
  obtain ⟨fsg, hfsg, Fsg⟩ := T.sign
  have glen : Glob B "len" (.builtin "len") := globB (T.bi _ (by simp)) (by decide) (by rfl)
  have hsl : sizeLine = 16777216 := rfl
  have hl18 : signLits.length = 18 := by decide
  refine CW.def0 T.ok T.there F rfl (fun q cd L => ?_) (by decide +kernel)
  refine SW.cons <| ST.assign T.there <| EW.list <| EWs.cons <| EW.list <| EWs.cons <| EW.cint <| EWs.cons <| EW.cstr <| EWs.nil ⟨by simp; exact (by decide : 2 ≤ sizeLine), EWs.cons <| EW.list <| EWs.cons <| EW.cint <| EWs.cons <| EW.cstr <| EWs.nil ⟨by simp; exact (by decide : 2 ≤ sizeLine), EWs.nil ⟨by simp; exact (by decide : 2 ≤ sizeLine), ?_⟩⟩⟩
  have hF0 : Files (H ++ [O.list [.int 36900, .str (Str.ofString "")]] ++ [O.list [.int 33261, .str (Str.ofString "a")]] ++ [O.list [.ref H.length, .ref (H ++ [O.list [.int 36900, .str (Str.ofString "")]]).length]]) (H ++ [O.list [.int 36900, .str (Str.ofString "")]] ++ [O.list [.int 33261, .str (Str.ofString "a")]]).length [H.length, (H ++ [O.list [.int 36900, .str (Str.ofString "")]]).length] [(36900, []), (33261, [97])] := by
    refine ⟨get_last _ _, rfl, by simp, by simp, fun i g k hg hk => ?_⟩
    match i with
    | 0 =>
      simp at hg hk
      subst hg hk
      exact getElem?_app (getElem?_app (get_last _ _))
    | 1 =>
      simp only [List.getElem?_cons_succ, List.getElem?_cons_zero, Option.some.injEq] at hg hk
      subst hg hk
      exact getElem?_app (get_last _ _)
    | i + 2 => simp at hg
  have ext : ∃ G, H ++ [O.list [.int 36900, .str (Str.ofString "")]] ++ [O.list [.int 33261, .str (Str.ofString "a")]] ++ [O.list [.ref H.length, .ref (H ++ [O.list [.int 36900, .str (Str.ofString "")]]).length]] = H ++ G := ⟨_, by simp only [List.append_assoc]; rfl⟩
  have hkf : H.length ≤ (H ++ [O.list [.int 36900, .str (Str.ofString "")]] ++ [O.list [.int 33261, .str (Str.ofString "a")]]).length := by simp
  generalize (H ++ [O.list [.int 36900, .str (Str.ofString "")]] ++ [O.list [.int 33261, .str (Str.ofString "a")]]).length = kf at *
  generalize H ++ [O.list [.int 36900, .str (Str.ofString "")]] ++ [O.list [.int 33261, .str (Str.ofString "a")]] ++ [O.list [.ref H.length, .ref (H ++ [O.list [.int 36900, .str (Str.ofString "")]]).length]] = H1 at *
  generalize [H.length, (H ++ [O.list [.int 36900, .str (Str.ofString "")]]).length] = ks0 at *
  have hkn1 : H1[kn]? = some (.list (ns.map V.int)) := by obtain ⟨G, rfl⟩ := ext; exact getElem?_app hkn
  have hok0 : okF 0 [(36900, []), (33261, [97])] := by
    refine ⟨by decide, by decide, fun g hg => ?_⟩
    rcases List.mem_cons.mp hg with rfl | hg
    · exact ⟨by decide, by decide⟩
    · rw [List.mem_singleton.mp hg]; exact ⟨by decide, by decide⟩
  refine SW.cons <| ST.for T.there <| EW.name (v := .ref kn) rfl ?_
  refine ⟨ns.map V.int, fun H' => H'[kn]? = some (.list (ns.map V.int)), fun i loc H' => i ≤ 14 ∧ loc "files" = some (.ref kf) ∧ H'[kn]? = some (.list (ns.map V.int)) ∧ (∃ G, H' = H ++ G) ∧ ∃ ks fs, Files H' kf ks fs ∧ okF i fs,
    IT.list hkn1, ⟨by omega, rfl, hkn1, ext, _, _, hF0, hok0⟩, fun i loc H' h => h.2.2.1, ?_, ?_⟩
  · rintro i v loc H' hv ⟨hi14, l1, hkn', ⟨G, rfl⟩, ks, fs, FF, ok⟩
    have hin : i < ns.length := by have := (List.getElem?_eq_some_iff.mp hv).1; rwa [List.length_map] at this
    obtain ⟨x, rfl⟩ : ∃ x, v = .int x := by
      rw [List.getElem?_map, List.getElem?_eq_getElem hin] at hv
      exact ⟨_, (Option.some.inj hv).symm⟩
    have hkl := FF.len
    have h2 := ok.1
    have h6 := ok.2.1
    have hlast : ks[ks.length - 1]? = some (ks[ks.length - 1]'(by omega)) := List.getElem?_eq_getElem _
    have hflast : fs[ks.length - 1]? = some (fs[ks.length - 1]'(by omega)) := List.getElem?_eq_getElem _
    have hat := FF.at_ _ _ _ hflast hlast
    have hfm := ok.2.2 _ (List.mem_of_getElem? hflast)
    generalize hgl : fs[ks.length - 1]'(by omega) = g at *
    obtain ⟨m, nm⟩ := g
    have hnm : nm.length ≤ 1 + i := hfm.2
    generalize hkl' : ks[ks.length - 1]'(by omega) = kl at *
    have knf : kn ≠ kf := by
      have := (List.getElem?_eq_some_iff.mp hkn).1
      omega
    -- a list that is pushed or laid at a place: what stays
    have stay : ∀ (R : List O) (o : O), ((H ++ G ++ R).set kf o)[kn]? = some (.list (ns.map V.int)) ∧ ∃ G', (H ++ G ++ R).set kf o = H ++ G' := fun R o => by
      refine ⟨by rw [List.getElem?_set_ne (Ne.symm knf)]; exact getElem?_app hkn', ?_⟩
      rw [List.append_assoc, List.set_append_right _ _ hkf]
      exact ⟨_, rfl⟩
    refine AW.name T.there ?_
    have e1 : upd loc "x" (V.int x) "files" = some (.ref kf) := l1
    have e2 : upd loc "x" (V.int x) "x" = some (.int x) := rfl
    generalize upd loc "x" (V.int x) = loc1 at *
    refine SW.cons <| ST.assign T.there <| EW.binop <| EW.name e2 <| EW.cint <| PW2.divI 4 (by decide) (by decide) fun z => ?_
    have e3 : upd loc1 "z" (V.int z) "files" = some (.ref kf) := e1
    have e4 : upd loc1 "z" (V.int z) "x" = some (.int x) := e2
    have e5 : upd loc1 "z" (V.int z) "z" = some (.int z) := rfl
    generalize upd loc1 "z" (V.int z) = loc2 at *
    refine SW.cons <| ST.assignT T.there <| EW.item <| EW.name e3 <| EW.neg <| EW.cint ⟨1, rfl, PW2.itemNeg (v := .ref kl) FF.l (by rw [List.length_map]; omega) ?_ <| AW.pair T.there hat ?_⟩
    · rw [List.length_map, List.getElem?_map, hlast]; rfl
    have f1 : upd (upd loc2 "mode" (.int (m : Int))) "name" (.str (S nm)) "files" = some (.ref kf) := e3
    have f2 : upd (upd loc2 "mode" (.int (m : Int))) "name" (.str (S nm)) "x" = some (.int x) := e4
    have f3 : upd (upd loc2 "mode" (.int (m : Int))) "name" (.str (S nm)) "z" = some (.int z) := e5
    have f4 : upd (upd loc2 "mode" (.int (m : Int))) "name" (.str (S nm)) "mode" = some (.int (m : Int)) := rfl
    have f5 : upd (upd loc2 "mode" (.int (m : Int))) "name" (.str (S nm)) "name" = some (.str (S nm)) := rfl
    generalize upd (upd loc2 "mode" (.int (m : Int))) "name" (.str (S nm)) = loc3 at *
    refine SW.cons <| ST.assign T.there <| EW.mono (Q := fun v H2 => ∃ d : Nat, v = .int (d : Int) ∧ H2 = H ++ G ∧ (fs.length < 6 ∨ d = 3)) ?_ fun v H2 hv => ?_
    · refine EW.ifexp <| TW.compare <| EW.call T.ok glen (.builtin _) <| EWs.cons <| EW.name f1 <| EWs.nil <| CW.lenl FF.l (by rw [List.length_map]; omega) ?_
      rw [List.length_map, hkl]
      refine EW.cint <| PW2.ltN fs.length 6 <| TV.bool ?_
      by_cases hlt : fs.length < 6
      · rw [decide_eq_true hlt]
        exact EW.binop <| EW.name f2 <| EW.cint <| PW2.modI 4 (by decide) fun d hd => ⟨d, rfl, rfl, .inl hlt⟩
      · rw [decide_eq_false hlt]
        exact EW.cint ⟨3, rfl, rfl, .inr rfl⟩
    obtain ⟨d, rfl, rfl, hd⟩ := hv
    have g1 : upd loc3 "deed" (.int (d : Int)) "files" = some (.ref kf) := f1
    have g3 : upd loc3 "deed" (.int (d : Int)) "z" = some (.int z) := f3
    have g4 : upd loc3 "deed" (.int (d : Int)) "mode" = some (.int (m : Int)) := f4
    have g5 : upd loc3 "deed" (.int (d : Int)) "name" = some (.str (S nm)) := f5
    have g6 : upd loc3 "deed" (.int (d : Int)) "deed" = some (.int (d : Int)) := rfl
    generalize upd loc3 "deed" (.int (d : Int)) = loc4 at *
    have hpz : (ks.map V.ref).length ≤ sizeLine := by rw [List.length_map]; omega
    refine SW.cons <| ST.ite <| TW.compare <| EW.name g6 <| EW.cint <| PW2.eqN d 0 <| TV.bool ?_
    rw [beq_dec]
    by_cases d0 : d = 0
    · rw [decide_eq_true d0]
      have hlt : fs.length < 6 := hd.elim id fun e => by omega
      refine SW.cons <| ST.expr <| EW.meth PySem.F.plainAttrs_list PySem.F.slot_list_append PySem.F.type_list_append <| EW.name g1 ⟨⟨_, FF.l, rfl⟩, EWs.cons <| EW.list <| EWs.cons <| EW.binop <| EW.binop <| EW.cint <| EW.binop <| EW.cint <| EW.name g3 <| PW2.mul (IntMulOk.of_left (by decide)) <| PW2.add <| EW.cint <| PW2.modI 65536 (by decide) fun m' hm' => EWs.cons <| EW.name g5 <| EWs.nil ⟨by simp; exact (by decide : 2 ≤ sizeLine), EWs.nil <| CW.append T.there (getElem?_app FF.l) hpz ?_⟩⟩
      have st := stay [pairO m' nm] (.list (ks.map V.ref ++ [V.ref (H ++ G).length]))
      exact SW.nil <| SW.nil ⟨by omega, g1, st.1, st.2, _, _, FF.push m' nm, ok.push hlt ⟨hm', Nat.le_succ_of_le hfm.2⟩⟩
    rw [decide_eq_false d0]
    refine SW.cons <| ST.ite <| TW.compare <| EW.name g6 <| EW.cint <| PW2.eqN d 1 <| TV.bool ?_
    rw [beq_dec]
    by_cases d1 : d = 1
    · rw [decide_eq_true d1]
      have hlt : fs.length < 6 := hd.elim id fun e => by omega
      refine SW.cons <| ST.assign T.there <| EW.binop <| EW.name g3 <| EW.cint <| PW2.modI 17 (by decide) fun b hb => ?_
      have k1 : upd loc4 "bit" (.int (b : Int)) "files" = some (.ref kf) := g1
      have k4 : upd loc4 "bit" (.int (b : Int)) "mode" = some (.int (m : Int)) := g4
      have k5 : upd loc4 "bit" (.int (b : Int)) "name" = some (.str (S nm)) := g5
      have k6 : upd loc4 "bit" (.int (b : Int)) "bit" = some (.int (b : Int)) := rfl
      generalize upd loc4 "bit" (.int (b : Int)) = loc5 at *
      refine SW.cons <| ST.expr <| EW.meth PySem.F.plainAttrs_list PySem.F.slot_list_append PySem.F.type_list_append <| EW.name k1 ⟨⟨_, FF.l, rfl⟩, EWs.cons <| EW.list <| EWs.cons <| EW.mono (Q := fun v H2 => ∃ m' : Nat, v = .int (m' : Int) ∧ m' < 65536 ∧ H2 = H ++ G) ?_ fun v H2 hv => ?_⟩
      · refine EW.ifexp <| TW.compare <| EW.name k6 <| EW.cint <| PW2.ltN b 16 <| TV.bool ?_
        by_cases hb16 : b < 16
        · rw [decide_eq_true hb16]
          refine EW.binop <| EW.name k4 <| EW.binop <| EW.cint <| EW.name k6 <| PW2.powN 2 b ?_ <| PW2.bxor ⟨newM m b, congrArg V.int (bxor_pow m b), newM_lt hfm.1 hb16, rfl⟩
          · have : (Builtin.Int.intBits ((2 : Nat) : Int) : Int) = 2 := by decide
            rw [this]; omega
        · rw [decide_eq_false hb16]
          exact EW.name k4 ⟨m, rfl, hfm.1, rfl⟩
      obtain ⟨m', rfl, hm', rfl⟩ := hv
      refine EWs.cons <| EW.name k5 <| EWs.nil ⟨by simp; exact (by decide : 2 ≤ sizeLine), EWs.nil <| CW.append T.there (getElem?_app FF.l) hpz ?_⟩
      have st := stay [pairO m' nm] (.list (ks.map V.ref ++ [V.ref (H ++ G).length]))
      exact SW.nil <| SW.nil <| SW.nil ⟨by omega, k1, st.1, st.2, _, _, FF.push m' nm, ok.push hlt ⟨hm', Nat.le_succ_of_le hfm.2⟩⟩
    rw [decide_eq_false d1]
    refine SW.cons <| ST.ite <| TW.compare <| EW.name g6 <| EW.cint <| PW2.eqN d 2 <| TV.bool ?_
    rw [beq_dec]
    by_cases d2 : d = 2
    · rw [decide_eq_true d2]
      have hlt : fs.length < 6 := hd.elim id fun e => by omega
      refine SW.cons <| ST.expr <| EW.meth PySem.F.plainAttrs_list PySem.F.slot_list_append PySem.F.type_list_append <| EW.name g1 ⟨⟨_, FF.l, rfl⟩, EWs.cons <| EW.list <| EWs.cons <| EW.name g4 <| EWs.cons <| EW.toN nm g5 (by omega) <| EW.binop <| EW.name g3 <| EW.binop <| EW.call T.ok glen (.builtin _) <| EWs.cons <| EW.name g5 <| EWs.nil <| CW.lenS (by omega) <| EW.cint <| PW2.addN nm.length 1 <| PW2.modI (nm.length + 1) (by omega) fun p hp => ⟨p, rfl, EWs.nil ⟨by simp; exact (by decide : 2 ≤ sizeLine), EWs.nil <| CW.append T.there (getElem?_app FF.l) hpz ?_⟩⟩⟩
      have st := stay [pairO m (nm.take p)] (.list (ks.map V.ref ++ [V.ref (H ++ G).length]))
      exact SW.nil <| SW.nil <| SW.nil <| SW.nil ⟨by omega, g1, st.1, st.2, _, _, FF.push m (nm.take p), ok.push hlt ⟨hfm.1, by show (nm.take p).length ≤ _; rw [List.length_take]; omega⟩⟩
    rw [decide_eq_false d2]
    refine SW.cons <| ST.assign T.there <| EW.binop <| EW.name g3 <| EW.cint <| PW2.divI 2 (by decide) (by decide) fun ww => ?_
    have k1 : upd loc4 "w" (.int ww) "files" = some (.ref kf) := g1
    have k3 : upd loc4 "w" (.int ww) "z" = some (.int z) := g3
    have k4 : upd loc4 "w" (.int ww) "mode" = some (.int (m : Int)) := g4
    have k5 : upd loc4 "w" (.int ww) "name" = some (.str (S nm)) := g5
    have k6 : upd loc4 "w" (.int ww) "w" = some (.int ww) := rfl
    generalize upd loc4 "w" (.int ww) = loc5 at *
    refine SW.cons <| ST.assign T.there <| EW.mono (Q := fun v H2 => ∃ c : Nat, v = .str (S [c]) ∧ H2 = H ++ G) ?_ fun v H2 hv => ?_
    · refine EW.ifexp <| TW.compare <| EW.binop <| EW.name k3 <| EW.cint <| PW2.modI 2 (by decide) fun e he => EW.cint <| PW2.eqN e 0 <| TV.bool ?_
      cases c6 : (e == 0) with
      | true =>
        refine EW.item <| EW.cstr <| EW.binop <| EW.name k6 <| EW.cint <| PW2.modI 18 (by decide) fun j hj => ?_
        exact PW2.itemN signLits j (signLits.getD j 0) (by rw [hl18]; decide) (getD_some (by rw [hl18]; exact hj)) ⟨_, rfl, rfl⟩ rfl rfl
      | false =>
        refine EW.call T.ok (.top hfsg) Fsg.callee <| EWs.cons <| EW.name k6 <| EWs.nil <| CW.mono (CW.lift (sign_call (n := 0) T hfsg) (by omega)) fun v H2 hv => ?_
        obtain ⟨rfl, e⟩ := hv; obtain rfl := e.symm
        exact ⟨_, rfl, rfl⟩
    obtain ⟨c, rfl, rfl⟩ := hv
    have j1 : upd loc5 "sign" (.str (S [c])) "files" = some (.ref kf) := k1
    have j4 : upd loc5 "sign" (.str (S [c])) "mode" = some (.int (m : Int)) := k4
    have j5 : upd loc5 "sign" (.str (S [c])) "name" = some (.str (S nm)) := k5
    have j6 : upd loc5 "sign" (.str (S [c])) "sign" = some (.str (S [c])) := rfl
    generalize upd loc5 "sign" (.str (S [c])) = loc6 at *
    refine SW.cons <| ST.setNeg T.there <| EW.list <| EWs.cons <| EW.name j4 <| EWs.cons <| EW.binop <| EW.name j5 <| EW.name j6 <| PW2.addS nm [c] (by simp; omega) <| EWs.nil ⟨by simp; exact (by decide : 2 ≤ sizeLine), EW.name j1 <| EW.neg <| EW.cint ⟨1, rfl, kf, ks.map V.ref, rfl, rfl, getElem?_app FF.l, by rw [List.length_map]; omega, hpz, ?_⟩⟩
    rw [List.length_map]
    have st := stay [pairO m (nm ++ [c])] (.list ((ks.map V.ref).set (ks.length - 1) (V.ref (H ++ G).length)))
    exact SW.nil <| SW.nil <| SW.nil <| SW.nil ⟨by omega, j1, st.1, st.2, _, _, FF.swap (ks.length - 1) m (nm ++ [c]), ok.swap ⟨hfm.1, by simp; omega⟩⟩
  · rintro loc H' ⟨_, l1, _, ⟨G, rfl⟩, ks, fs, FF, ok⟩
    rw [List.length_map] at ok
    refine SW.nil ?_
    exact SW.cons <| ST.ret <| EW.name l1 ⟨_, rfl, G, kf, ks, fs, rfl, rfl, FF, ok⟩
end Mine

end
section
open PySem PySem.W PySem.Calls PyProof.Rows
set_option maxRecDepth 100000
namespace Mine

/-- a number and what it stands for -/
abbrev Tk := Nat × List Nat
def flat (X : List Tk) : List Nat := X.flatMap fun t => t.2
def rks (X : List Tk) : List Nat := X.map fun t => t.1
def wds (X : List Tk) : List Nat := X.map fun t => t.2.length

theorem flat_cons (t : Tk) (X : List Tk) : flat (t :: X) = t.2 ++ flat X := by simp [flat]
theorem flat_app (X Y : List Tk) : flat (X ++ Y) = flat X ++ flat Y := by simp [flat]

/-- one text ahead of another -/
def ltL : List Nat → List Nat → Bool
  | [], [] => false
  | [], _ :: _ => true
  | _ :: _, [] => false
  | a :: x, b :: y => if a = b then ltL x y else decide (a < b)

theorem ltL_dec : ∀ (l m : List Nat) [Decidable (l < m)], decide (l < m) = ltL l m
  | [], [], _ => by simp [ltL]
  | [], _ :: _, _ => by simp [ltL]
  | _ :: _, [], _ => by simp [ltL]
  | a :: x, b :: y, _ => by
    have ih := ltL_dec x y
    unfold ltL
    by_cases h : a = b
    · subst h
      rw [if_pos rfl, ← ih]
      simp [List.cons_lt_cons_iff]
    · rw [if_neg h]
      simp [List.cons_lt_cons_iff, h]
theorem ltI_cast : ∀ (l m : List Nat), ltI (l.map fun k : Nat => (k : Int)) (m.map fun k : Nat => (k : Int)) = ltL l m
  | [], [] => rfl
  | [], _ :: _ => rfl
  | _ :: _, [] => rfl
  | a :: x, b :: y => by
    have ih := ltI_cast x y
    simp only [List.map_cons]
    unfold ltI ltL
    rw [ih]
    by_cases h : a = b
    · subst h; rw [if_pos rfl, if_pos rfl]
    · rw [if_neg h, if_neg (show ¬ (a : Int) = (b : Int) by omega)]
      simp

theorem lcp_nil : ∀ x : List Nat, lcp x [] = 0
  | [] => rfl
  | _ :: _ => rfl
theorem lcp_app : ∀ (p x y : List Nat), lcp (p ++ x) (p ++ y) = p.length + lcp x y
  | [], x, y => by simp
  | a :: p, x, y => by
    have := lcp_app p x y
    simp only [List.cons_append, List.length_cons]
    conv => lhs; unfold lcp
    rw [if_pos rfl, this]; omega
theorem ltL_app : ∀ (p x y : List Nat), ltL (p ++ x) (p ++ y) = ltL x y
  | [], x, y => by simp
  | a :: p, x, y => by
    have := ltL_app p x y
    simp only [List.cons_append]
    conv => lhs; unfold ltL
    rw [if_pos rfl, this]

/-- two texts part at once, as their numbers do -/
def Part (A B : List Nat) (r s : Nat) : Prop := r ≠ s ∧ match A, B with
  | [], [] => False
  | [], _ :: _ => r < s
  | _ :: _, [] => s < r
  | a :: _, b :: _ => a ≠ b ∧ (a < b ↔ r < s)

theorem Part.symm {A B r s} (h : Part A B r s) : Part B A s r := by
  obtain ⟨hn, h⟩ := h
  refine ⟨Ne.symm hn, ?_⟩
  match A, B, h with
  | [], _ :: _, h => exact h
  | _ :: _, [], h => exact h
  | a :: _, b :: _, h => exact ⟨Ne.symm h.1, by have := h.1; have := h.2; omega⟩
theorem Part.lcp {A B r s} (h : Part A B r s) : Mine.lcp A B = 0 := by
  obtain ⟨hn, h⟩ := h
  match A, B, h with
  | [], _ :: _, h => rfl
  | _ :: _, [], h => rfl
  | a :: _, b :: _, h => unfold Mine.lcp; rw [if_neg h.1]
theorem Part.lt {A B r s} (h : Part A B r s) : ltL A B = decide (r < s) := by
  obtain ⟨hn, h⟩ := h
  match A, B, h with
  | [], _ :: _, h => show true = _; rw [decide_eq_true h]
  | _ :: _, [], h => show false = _; rw [decide_eq_false (by omega)]
  | a :: _, b :: _, h => unfold ltL; rw [if_neg h.1]; exact decide_eq_decide.mpr h.2

/-- two rows of numbers that part where their texts do -/
inductive Good (w : Nat) : List Tk → List Tk → Prop
  | nil : Good w [] []
  | left {t Y} : t.2 ≠ [] → Good w [] (t :: Y)
  | right {t X} : t.2 ≠ [] → Good w (t :: X) []
  | same {t X Y} : Good w X Y → Good w (t :: X) (t :: Y)
  | diff {s t X Y} {P A B : List Nat} : s.2 ++ flat X = P ++ A → t.2 ++ flat Y = P ++ B → P.length = alikeN (Min.min s.1 t.1) (Max.max s.1 t.1) w → Part A B s.1 t.1 → Good w (s :: X) (t :: Y)

theorem Good.symm {w X Y} (h : Good w X Y) : Good w Y X := by
  induction h with
  | nil => exact .nil
  | left h => exact .right h
  | right h => exact .left h
  | same _ ih => exact .same ih
  | diff h1 h2 h3 h4 => exact .diff h2 h1 (by rw [h3, Nat.min_comm, Nat.max_comm]) h4.symm

theorem place_cons (w r d : Nat) (R1 R2 W : List Nat) : placeN w (r :: R1) (r :: R2) (d :: W) = d + placeN w R1 R2 W := by
  unfold placeN
  have e : lcp (r :: R1) (r :: R2) = lcp R1 R2 + 1 := by
    conv => lhs; unfold lcp
    rw [if_pos rfl]
  rw [e, List.take_succ_cons, List.sum_cons, List.length_cons, List.length_cons, List.getD_cons_succ, List.getD_cons_succ, Nat.add_assoc]
  congr 2
  simp only [Nat.add_right_cancel_iff]
theorem Good.place {w X Y} (h : Good w X Y) : lcp (flat X) (flat Y) = placeN w (rks X) (rks Y) (wds X) := by
  induction h with
  | nil => rfl
  | left h => simp [flat, rks, wds, placeN, lcp]
  | @right t X h =>
    rw [show flat [] = [] from rfl, lcp_nil]
    unfold placeN
    rw [show rks [] = [] from rfl, lcp_nil]
    simp
  | @same t X Y _ ih =>
    rw [flat_cons, flat_cons, lcp_app, ih]
    exact (place_cons w t.1 t.2.length (rks X) (rks Y) (wds X)).symm
  | @diff s t X Y P A B h1 h2 h3 h4 =>
    rw [flat_cons, flat_cons, h1, h2, lcp_app, h4.lcp, Nat.add_zero, h3]
    have e : lcp (rks (s :: X)) (rks (t :: Y)) = 0 := by
      show lcp (s.1 :: rks X) (t.1 :: rks Y) = 0
      unfold lcp; rw [if_neg h4.1]
    unfold placeN
    rw [e, if_neg (by simp [rks])]
    simp [rks]
theorem Good.lt {w X Y} (h : Good w X Y) : ltL (flat X) (flat Y) = ltL (rks X) (rks Y) := by
  induction h with
  | nil => rfl
  | @left t Y h =>
    rw [flat_cons, show flat [] = [] from rfl]
    cases ht : t.2 with
    | nil => exact absurd ht h
    | cons a r => rfl
  | @right t X h =>
    rw [flat_cons, show flat [] = [] from rfl]
    cases ht : t.2 with
    | nil => exact absurd ht h
    | cons a r => rfl
  | @same t X Y _ ih =>
    rw [flat_cons, flat_cons, ltL_app, ih]
    show _ = ltL (t.1 :: rks X) (t.1 :: rks Y)
    conv => rhs; unfold ltL
    rw [if_pos rfl]
  | @diff s t X Y P A B h1 h2 h3 h4 =>
    rw [flat_cons, flat_cons, h1, h2, ltL_app, h4.lt]
    show _ = ltL (s.1 :: rks X) (t.1 :: rks Y)
    unfold ltL; rw [if_neg h4.1]

/-- two texts part at their k-th sign -/
theorem Good.cut {w r s : Nat} {a b : List Nat} {X Y : List Tk} (k : Nat) (hk : alikeN (Min.min r s) (Max.max r s) w = k) (h1 : a.take k = b.take k) (h2 : k < a.length) (h3 : k < b.length) (h4 : a.getD k 0 ≠ b.getD k 0) (h5 : a.getD k 0 < b.getD k 0 ↔ r < s) (h6 : r ≠ s) :
    Good w ((r, a) :: X) ((s, b) :: Y) := by
  have ea : a = a.take k ++ (a.getD k 0 :: a.drop (k + 1)) := by
    conv => lhs; rw [← List.take_append_drop k a, List.drop_eq_getElem_cons h2]
    rw [List.getD_eq_getElem?_getD, List.getElem?_eq_getElem h2]; rfl
  have eb : b = b.take k ++ (b.getD k 0 :: b.drop (k + 1)) := by
    conv => lhs; rw [← List.take_append_drop k b, List.drop_eq_getElem_cons h3]
    rw [List.getD_eq_getElem?_getD, List.getElem?_eq_getElem h3]; rfl
  refine .diff (P := a.take k) (A := a.getD k 0 :: (a.drop (k + 1) ++ flat X)) (B := b.getD k 0 :: (b.drop (k + 1) ++ flat Y)) ?_ ?_ ?_ ⟨h6, h4, h5⟩
  · show a ++ flat X = _
    conv => lhs; rw [ea]
    rw [List.append_assoc]; rfl
  · show b ++ flat Y = _
    conv => lhs; rw [eb]
    rw [h1, List.append_assoc]; rfl
  · rw [hk, List.length_take]; omega

theorem alike_low {lo hi w : Nat} (h : lo < 609) : alikeN lo hi w = 0 := by unfold alikeN; rw [if_neg (by omega), if_pos (.inl h)]
theorem alike_high {lo hi w : Nat} (h : 615 < hi) (h' : ¬ (lo = 624 ∧ hi = 625)) : alikeN lo hi w = 0 := by unfold alikeN; rw [if_neg h', if_pos (.inr h)]

/-! the signs of a name -/
def signT (w c : Nat) : Tk := (rkS w c, spell w c)
def endT : Tk := (624, [39])

theorem spelled_tab : ∀ w : Nat, spelledL w = (tabD w).map fun p => p.1
  | 0 => rfl
  | 1 => rfl
  | 2 => rfl
  | 3 => rfl
  | _ + 4 => rfl
theorem plain_tab {w c : Nat} (h : c ∉ spelledL w) : tabF (tabD w) c = [c] := tabF_plain fun p hp e => h (by rw [spelled_tab]; exact List.mem_map.mpr ⟨p, hp, e⟩)
theorem esc_fact : ∀ w : Fin 5, ∀ c ∈ spelledL w.1, c ≠ 39 ∧ (spell w.1 c).getD 0 0 = 38 ∧ 0 < (spell w.1 c).length ∧ seven.idxOf c ≤ 6 ∧ wdS w.1 c = (spell w.1 c).length := by decide +kernel
theorem apo_fact : ∀ w : Fin 5, 39 ∉ spelledL w.1 ∧ 38 ∈ spelledL w.1 ∧ (spell w.1 39).take 1 = [39] ∧ 1 < (spell w.1 39).length ∧ wdS w.1 39 = (spell w.1 39).length := by decide +kernel
theorem esc_esc : ∀ w : Fin 5, ∀ c ∈ spelledL w.1, ∀ d ∈ spelledL w.1, c ≠ d →
    (spell w.1 c).take (alikeN (Min.min (rkS w.1 c) (rkS w.1 d)) (Max.max (rkS w.1 c) (rkS w.1 d)) w.1) = (spell w.1 d).take (alikeN (Min.min (rkS w.1 c) (rkS w.1 d)) (Max.max (rkS w.1 c) (rkS w.1 d)) w.1) ∧
    alikeN (Min.min (rkS w.1 c) (rkS w.1 d)) (Max.max (rkS w.1 c) (rkS w.1 d)) w.1 < (spell w.1 c).length ∧ alikeN (Min.min (rkS w.1 c) (rkS w.1 d)) (Max.max (rkS w.1 c) (rkS w.1 d)) w.1 < (spell w.1 d).length ∧
    (spell w.1 c).getD (alikeN (Min.min (rkS w.1 c) (rkS w.1 d)) (Max.max (rkS w.1 c) (rkS w.1 d)) w.1) 0 ≠ (spell w.1 d).getD (alikeN (Min.min (rkS w.1 c) (rkS w.1 d)) (Max.max (rkS w.1 c) (rkS w.1 d)) w.1) 0 ∧
    ((spell w.1 c).getD (alikeN (Min.min (rkS w.1 c) (rkS w.1 d)) (Max.max (rkS w.1 c) (rkS w.1 d)) w.1) 0 < (spell w.1 d).getD (alikeN (Min.min (rkS w.1 c) (rkS w.1 d)) (Max.max (rkS w.1 c) (rkS w.1 d)) w.1) 0 ↔ rkS w.1 c < rkS w.1 d) ∧ rkS w.1 c ≠ rkS w.1 d := by decide +kernel

/-- the three kinds of signs -/
inductive Kind (w c : Nat) : Prop
  | esc (h : c ∈ spelledL w) (r : rkS w c = 609 + seven.idxOf c) (hr : seven.idxOf c ≤ 6) (hl : 0 < (spell w c).length) (h0 : (spell w c).getD 0 0 = 38)
  | apo (h : c = 39) (r : rkS w c = 625) (hl : 1 < (spell w c).length) (h0 : (spell w c).take 1 = [39])
  | plain (h : c ∉ spelledL w) (h39 : c ≠ 39) (h38 : c ≠ 38) (r : rkS w c = 16 * c) (ht : spell w c = [c])
theorem kind_of {w : Nat} (hw : w < 5) (c : Nat) : Kind w c := by
  by_cases h : c ∈ spelledL w
  · have := esc_fact ⟨w, hw⟩ c h
    exact .esc h (by unfold rkS; rw [if_pos h]) this.2.2.2.1 this.2.2.1 this.2.1
  · by_cases h39 : c = 39
    · have := apo_fact ⟨w, hw⟩
      exact .apo h39 (by unfold rkS; rw [if_neg h, if_pos h39]) (h39 ▸ this.2.2.2.1) (h39 ▸ this.2.2.1)
    · refine .plain h h39 (fun e => h (e ▸ (apo_fact ⟨w, hw⟩).2.1)) (by unfold rkS; rw [if_neg h, if_neg h39]) ?_
      unfold spell; rw [if_neg h39]; exact plain_tab h
theorem take1 {l : List Nat} (h : l.take 1 = [39]) : l.getD 0 0 = 39 := by
  cases l with
  | nil => cases h
  | cons a r => injection h

/-- two signs that are not the same -/
theorem sign_diff {w c d : Nat} (hw : w < 5) (hcd : c ≠ d) (X Y : List Tk) : Good w (signT w c :: X) (signT w d :: Y) := by
  have esc_plain : ∀ {c d : Nat} {X Y : List Tk}, c ∈ spelledL w → rkS w c = 609 + seven.idxOf c → seven.idxOf c ≤ 6 → 0 < (spell w c).length → (spell w c).getD 0 0 = 38 → d ≠ 38 → d ≠ 39 → rkS w d = 16 * d → spell w d = [d] → Good w (signT w c :: X) (signT w d :: Y) := fun {c d X Y} h r hr hl h0 d38 d39 r' ht => by
    refine .cut 0 ?_ rfl hl (by rw [ht]; exact Nat.zero_lt_one) ?_ ?_ ?_
    · rw [r, r']
      by_cases hd : d ≤ 37
      · exact alike_low (by omega)
      · exact alike_high (by omega) (by omega)
    · rw [h0, ht]; exact Ne.symm d38
    · rw [h0, ht, r, r']; show 38 < d ↔ _; omega
    · rw [r, r']; omega
  have esc_apo : ∀ {c d : Nat} {X Y : List Tk}, rkS w c = 609 + seven.idxOf c → seven.idxOf c ≤ 6 → 0 < (spell w c).length → (spell w c).getD 0 0 = 38 → rkS w d = 625 → 1 < (spell w d).length → (spell w d).take 1 = [39] → Good w (signT w c :: X) (signT w d :: Y) := fun {c d X Y} r hr hl h0 r' hl' h0' => by
    have e := take1 h0'
    refine .cut 0 ?_ rfl hl (by omega) ?_ ?_ ?_
    · rw [r, r']; exact alike_high (by omega) (by omega)
    · rw [h0, e]; decide
    · rw [h0, e, r, r']; omega
    · rw [r, r']; omega
  have apo_plain : ∀ {c d : Nat} {X Y : List Tk}, rkS w c = 625 → 1 < (spell w c).length → (spell w c).take 1 = [39] → d ≠ 39 → rkS w d = 16 * d → spell w d = [d] → Good w (signT w c :: X) (signT w d :: Y) := fun {c d X Y} r hl h0 d39 r' ht => by
    have e := take1 h0
    refine .cut 0 ?_ rfl (by omega) (by rw [ht]; exact Nat.zero_lt_one) ?_ ?_ ?_
    · rw [r, r']; exact alike_high (by omega) (by omega)
    · rw [e, ht]; exact Ne.symm d39
    · rw [e, ht, r, r']; show 39 < d ↔ _; omega
    · rw [r, r']; omega
  cases kind_of hw c with
  | esc h r hr hl h0 =>
    cases kind_of hw d with
    | esc h' r' hr' hl' h0' =>
      obtain ⟨a, b, c', d', e, f⟩ := esc_esc ⟨w, hw⟩ c h d h' hcd
      exact .cut _ rfl a b c' d' e f
    | apo h' r' hl' h0' => exact esc_apo r hr hl h0 r' hl' h0'
    | plain h' d39 d38 r' ht => exact esc_plain h r hr hl h0 d38 d39 r' ht
  | apo h r hl h0 =>
    cases kind_of hw d with
    | esc h' r' hr' hl' h0' => exact (esc_apo r' hr' hl' h0' r hl h0).symm
    | apo h' r' hl' h0' => exact absurd (h.trans h'.symm) hcd
    | plain h' d39 d38 r' ht => exact apo_plain r hl h0 d39 r' ht
  | plain h c39 c38 r ht =>
    cases kind_of hw d with
    | esc h' r' hr' hl' h0' => exact (esc_plain h' r' hr' hl' h0' c38 c39 r ht).symm
    | apo h' r' hl' h0' => exact (apo_plain r' hl' h0' c39 r ht).symm
    | plain h' d39 d38 r' ht' =>
      refine .cut 0 ?_ rfl (by rw [ht]; exact Nat.zero_lt_one) (by rw [ht']; exact Nat.zero_lt_one) ?_ ?_ ?_
      · rw [r, r']
        by_cases hd : c ≤ 37 ∨ d ≤ 37
        · exact alike_low (by omega)
        · exact alike_high (by omega) (by omega)
      · rw [ht, ht']; exact hcd
      · rw [ht, ht', r, r']; show c < d ↔ _; omega
      · rw [r, r']; omega

/-- the apostrophe ahead of a name, and a plain sign -/
theorem end_plain {w d : Nat} (X Y : List Tk) (d39 : d ≠ 39) (d38 : d ≠ 38) (r' : rkS w d = 16 * d) (ht : spell w d = [d]) : Good w (endT :: X) (signT w d :: Y) := by
  refine .cut 0 ?_ rfl (by decide) (by rw [ht]; exact Nat.zero_lt_one) ?_ ?_ ?_
  · rw [r']
    by_cases hd : d ≤ 37
    · exact alike_low (by omega)
    · exact alike_high (by omega) (by omega)
  · rw [ht]; exact Ne.symm d39
  · rw [ht, r']; show 39 < d ↔ 624 < 16 * d; omega
  · rw [r']; show 624 ≠ 16 * d; omega
/-- the apostrophe that ends a name, and a sign -/
theorem end_sign {w d : Nat} (hw : w < 5) (Y : List Tk) : Good w [endT] (signT w d :: Y) := by
  cases kind_of hw d with
  | plain h' d39 d38 r' ht => exact end_plain _ _ d39 d38 r' ht
  | esc h' r' hr' hl' h0' =>
    refine .cut 0 ?_ rfl (by decide) hl' ?_ ?_ ?_
    · rw [r']; exact alike_high (by omega) (by omega)
    · rw [h0']; decide
    · rw [h0', r']; show 39 < 38 ↔ 624 < 609 + seven.idxOf d; omega
    · rw [r']; show 624 ≠ 609 + seven.idxOf d; omega
  | apo h' r' hl' h0' =>
    have e : (spell w d).take 1 ++ (spell w d).drop 1 = spell w d := List.take_append_drop 1 _
    rw [h0'] at e
    refine .diff (P := [39]) (A := []) (B := (spell w d).drop 1 ++ flat Y) rfl ?_ ?_ ⟨?_, ?_⟩
    · show spell w d ++ flat Y = _
      conv => lhs; rw [← e]
      rw [List.append_assoc]
    · show 1 = alikeN (Min.min 624 (rkS w d)) (Max.max 624 (rkS w d)) w
      rw [r']; rfl
    · show 624 ≠ rkS w d
      rw [r']; decide
    · cases hd : (spell w d).drop 1 with
      | nil =>
        have := congrArg List.length hd
        rw [List.length_drop, List.length_nil] at this; omega
      | cons a r =>
        show 624 < rkS w d
        rw [r']; decide

theorem spell_ne {w : Nat} (hw : w < 5) (c : Nat) : spell w c ≠ [] := by
  cases kind_of hw c with
  | esc _ _ _ hl _ => intro e; rw [e] at hl; exact absurd hl (Nat.lt_irrefl _)
  | apo _ _ hl _ => intro e; rw [e] at hl; exact absurd hl (by decide)
  | plain _ _ _ _ ht => rw [ht]; exact List.cons_ne_nil _ _

theorem signs_end {w : Nat} (hw : w < 5) : ∀ l l' : List Nat, Good w (l.map (signT w) ++ [endT]) (l'.map (signT w) ++ [endT])
  | [], [] => .same .nil
  | [], d :: r => end_sign hw _
  | c :: r, [] => (end_sign hw _).symm
  | c :: r, d :: r' => by
    by_cases h : c = d
    · subst h; exact .same (signs_end hw r r')
    · exact sign_diff hw h _ _
theorem signs_bare {w : Nat} (hw : w < 5) : ∀ l l' : List Nat, Good w (l.map (signT w)) (l'.map (signT w))
  | [], [] => .nil
  | [], d :: r => .left (spell_ne hw d)
  | c :: r, [] => .right (spell_ne hw c)
  | c :: r, d :: r' => by
    by_cases h : c = d
    · subst h; exact .same (signs_bare hw r r')
    · exact sign_diff hw h _ _

def nameT (w : Nat) (l : List Nat) : List Tk := if bareL l then l.map (signT w) else endT :: (l.map (signT w) ++ [endT])

theorem safe_plain {w c : Nat} (h : safeCp c = true) : c ∉ spelledL w ∧ c ≠ 39 ∧ c ≠ 38 := by
  refine ⟨fun hm => ?_, fun e => ?_, fun e => ?_⟩
  · rw [spelled_tab] at hm
    obtain ⟨p, hp, rfl⟩ := List.mem_map.mp hm
    rw [(keys_bad w p hp).1] at h; cases h
  · rw [e, safe39] at h; cases h
  · subst e; exact absurd h (by decide +kernel)
theorem bare_parts {l : List Nat} (h : bareL l = true) : l ≠ [] ∧ ∀ c ∈ l, safeCp c = true := by
  unfold bareL at h
  simp only [Bool.and_eq_true, decide_eq_true_eq, List.all_eq_true] at h
  exact h

theorem end_bare {w : Nat} (hw : w < 5) {l : List Nat} (h : bareL l = true) (X : List Tk) : Good w (endT :: X) (l.map (signT w)) := by
  obtain ⟨h0, hs⟩ := bare_parts h
  cases l with
  | nil => exact absurd rfl h0
  | cons c r =>
    obtain ⟨h1, h2, h3⟩ := safe_plain (w := w) (hs c (.head _))
    exact end_plain _ _ h2 h3 (by unfold rkS; rw [if_neg h1, if_neg h2]) (by unfold spell; rw [if_neg h2]; exact plain_tab h1)

theorem name_good {w : Nat} (hw : w < 5) (l l' : List Nat) : Good w (nameT w l) (nameT w l') := by
  unfold nameT
  cases h : bareL l with
  | true =>
    cases h' : bareL l' with
    | true => exact signs_bare hw l l'
    | false => exact (end_bare hw h _).symm
  | false =>
    cases h' : bareL l' with
    | true => exact end_bare hw h' _
    | false => exact .same (signs_end hw l l')
end Mine

end
section
open PySem PySem.W PySem.Calls PyProof.Rows
set_option maxRecDepth 100000
namespace Mine

def kn (q : Nat) : Bool := [1, 2, 4, 6, 8, 10, 12].any (· == q)
def kt (q : Nat) : Tk := (kinds.getD q 0, if kn q then [types.getD q 0] else [39, 63])
def blankT (m : Nat) : Tk := (0, if known m then [32] else [39, 32])
def gT (k d a : Nat) : List Tk := [(d / 4, [[45, 114].getD (d / 4) 0]), (d / 2 % 2, [[45, 119].getD (d / 2 % 2) 0]), ([0, 3, 1, 2].getD (d % 2 + 2 * a) 0, [(lastRow k).getD (d % 2 + 2 * a) 0])]
def groupT (m k : Nat) : List Tk := gT k (m / 8 ^ (2 - k) % 8) (m / 512 / 2 ^ (2 - k) % 2)
def fileT (w m : Nat) (l : List Nat) : List Tk := kt (m / 4096) :: (groupT m 0 ++ (groupT m 1 ++ (groupT m 2 ++ (blankT m :: nameT w l))))

theorem wds_app (X Y : List Tk) : wds (X ++ Y) = wds X ++ wds Y := by simp [wds]

theorem sign_safe {w c : Nat} (h : safeCp c = true) : signT w c = (16 * c, [c]) := by
  obtain ⟨h1, h2, _⟩ := safe_plain (w := w) h
  have e1 : rkS w c = 16 * c := by unfold rkS; rw [if_neg h1, if_neg h2]
  have e2 : spell w c = [c] := by unfold spell; rw [if_neg h2]; exact plain_tab h1
  unfold signT; rw [e1, e2]

theorem rks_name (w : Nat) (l : List Nat) : rks (nameT w l) = nameR w l := by
  unfold nameT nameR
  cases h : bareL l with
  | true =>
    obtain ⟨_, hs⟩ := bare_parts h
    simp only [if_true]
    unfold rks
    rw [List.map_map]
    refine List.map_congr_left fun c hc => ?_
    show (signT w c).1 = _
    rw [sign_safe (hs c hc)]
  | false => simp [rks, endT, signT, Function.comp_def]
theorem flat_name (w : Nat) (l : List Nat) : flat (nameT w l) = nameL w l := by
  unfold nameT nameL
  cases h : bareL l with
  | true =>
    obtain ⟨h0, hs⟩ := bare_parts h
    simp only [if_true]
    clear h h0
    induction l with
    | nil => rfl
    | cons c r ih =>
      rw [List.map_cons, flat_cons, sign_safe (hs c (.head _)), ih fun d hd => hs d (.tail _ hd)]; rfl
  | false =>
    simp only [Bool.false_eq_true, if_false]
    rw [flat_cons, flat_app]
    have : flat (l.map (signT w)) = l.flatMap (spell w) := by
      unfold flat; rw [List.flatMap_map]; rfl
    rw [this]
    show [39] ++ (l.flatMap (spell w) ++ flat [endT]) = _
    rw [show flat [endT] = [39] from rfl, List.append_assoc]
theorem wd_is {w : Nat} (hw : w < 5) (c : Nat) : (spell w c).length = wdS w c := by
  by_cases h : c ∈ spelledL w
  · exact (esc_fact ⟨w, hw⟩ c h).2.2.2.2.symm
  · by_cases h39 : c = 39
    · subst h39; exact (apo_fact ⟨w, hw⟩).2.2.2.2.symm
    · have e2 : spell w c = [c] := by unfold spell; rw [if_neg h39]; exact plain_tab h
      rw [e2]; unfold wdS; rw [if_neg h39, if_neg h]; rfl
theorem wds_name {w : Nat} (hw : w < 5) (l : List Nat) : wds (nameT w l) = nameW w l := by
  unfold nameT nameW
  cases h : bareL l with
  | true =>
    obtain ⟨_, hs⟩ := bare_parts h
    simp only [if_true]
    unfold wds
    rw [List.map_map, ← List.map_const']
    refine List.map_congr_left fun c hc => ?_
    show (signT w c).2.length = _
    rw [sign_safe (hs c hc)]; rfl
  | false =>
    simp only [Bool.false_eq_true, if_false]
    have e : wds (l.map (signT w)) = l.map (wdS w) := by
      unfold wds
      rw [List.map_map]
      exact List.map_congr_left fun c _ => wd_is hw c
    show [39].length :: wds (l.map (signT w) ++ [endT]) = _
    rw [wds_app, e]; rfl

theorem rks_file (w m : Nat) (l : List Nat) : rks (fileT w m l) = ranksL w m l := by
  have : rks (fileT w m l) = headR m ++ rks (nameT w l) := rfl
  rw [this, rks_name]; rfl
theorem wds_file {w : Nat} (hw : w < 5) (m : Nat) (l : List Nat) : wds (fileT w m l) = widthsL w m l := by
  have : wds (fileT w m l) = [(kt (m / 4096)).2.length] ++ List.replicate 9 1 ++ [(blankT m).2.length] ++ wds (nameT w l) := rfl
  rw [this, wds_name hw]
  unfold widthsL headW moreN blankT kt
  rw [show kn (m / 4096) = known m from rfl]
  cases known m <;> rfl
theorem flat_file (w m : Nat) (l : List Nat) : flat (fileT w m l) = rowL m ++ [32] ++ nameL w l := by
  have : flat (fileT w m l) = (kt (m / 4096)).2 ++ (nineL m ++ ((blankT m).2 ++ flat (nameT w l))) := by
    unfold fileT
    rw [flat_cons, flat_app, flat_app, flat_app, flat_cons, ← List.append_assoc (flat (groupT m 0)), ← List.append_assoc (flat (groupT m 0) ++ flat (groupT m 1))]
    congr 2
  rw [this, flat_name]
  unfold rowL blankT kt
  rw [show kn (m / 4096) = known m from rfl]
  cases known m <;> simp

theorem text_is {w m : Nat} (hm : m < 65536) (l : List Nat) : mapT (tabOf w) (glue [32] ([fmL m, l].map quoteL)) = flat (fileT w m l) := by
  have := page_is (w := w) (fs := [(m, l)]) fun f hf => by rw [List.mem_singleton.mp hf]; exact hm
  rw [flat_file]
  exact this

/-- two tokens of one sign each -/
theorem Good.one {w r r' c c' : Nat} {X Y : List Tk} (h : r = r' → c = c') (h2 : r ≠ r' → c ≠ c' ∧ (c < c' ↔ r < r')) (hs : r < 609) (g : Good w X Y) : Good w ((r, [c]) :: X) ((r', [c']) :: Y) := by
  by_cases e : r = r'
  · have := h e
    subst e this
    exact .same g
  · obtain ⟨a, b⟩ := h2 e
    exact .cut 0 (alike_low (by omega)) rfl (by exact Nat.zero_lt_one) (by exact Nat.zero_lt_one) a b e

theorem two_r : ∀ x y : Fin 2, (x.1 = y.1 → [45, 114].getD x.1 0 = [45, 114].getD y.1 0) ∧ (x.1 ≠ y.1 → [45, 114].getD x.1 0 ≠ [45, 114].getD y.1 0 ∧ ([45, 114].getD x.1 0 < [45, 114].getD y.1 0 ↔ x.1 < y.1)) := by decide +kernel
theorem two_w : ∀ x y : Fin 2, (x.1 = y.1 → [45, 119].getD x.1 0 = [45, 119].getD y.1 0) ∧ (x.1 ≠ y.1 → [45, 119].getD x.1 0 ≠ [45, 119].getD y.1 0 ∧ ([45, 119].getD x.1 0 < [45, 119].getD y.1 0 ↔ x.1 < y.1)) := by decide +kernel
theorem four_x : ∀ k : Fin 3, ∀ x y : Fin 4, ([0, 3, 1, 2].getD x.1 0 = [0, 3, 1, 2].getD y.1 0 → (lastRow k.1).getD x.1 0 = (lastRow k.1).getD y.1 0) ∧ ([0, 3, 1, 2].getD x.1 0 ≠ [0, 3, 1, 2].getD y.1 0 → (lastRow k.1).getD x.1 0 ≠ (lastRow k.1).getD y.1 0 ∧ ((lastRow k.1).getD x.1 0 < (lastRow k.1).getD y.1 0 ↔ [0, 3, 1, 2].getD x.1 0 < [0, 3, 1, 2].getD y.1 0)) ∧ [0, 3, 1, 2].getD x.1 0 < 609 := by decide +kernel

theorem gT_good {w k d a d' a' : Nat} {X Y : List Tk} (hk : k < 3) (hd : d < 8) (ha : a < 2) (hd' : d' < 8) (ha' : a' < 2) (g : Good w X Y) : Good w (gT k d a ++ X) (gT k d' a' ++ Y) := by
  have f1 := two_r ⟨d / 4, by omega⟩ ⟨d' / 4, by omega⟩
  have f2 := two_w ⟨d / 2 % 2, by omega⟩ ⟨d' / 2 % 2, by omega⟩
  have f3 := four_x ⟨k, hk⟩ ⟨d % 2 + 2 * a, by omega⟩ ⟨d' % 2 + 2 * a', by omega⟩
  exact .one f1.1 f1.2 (by omega) (.one f2.1 f2.2 (by omega) (.one f3.1 f3.2.1 f3.2.2 g))
theorem group_good {w k m m' : Nat} {X Y : List Tk} (hk : k < 3) (g : Good w X Y) : Good w (groupT m k ++ X) (groupT m' k ++ Y) :=
  gT_good hk (Nat.mod_lt _ (by decide)) (Nat.mod_lt _ (by decide)) (Nat.mod_lt _ (by decide)) (Nat.mod_lt _ (by decide)) g

theorem kind_same : ∀ a b : Fin 16, (kt a.1).1 = (kt b.1).1 → (kt a.1).2 = (kt b.1).2 ∧ kn a.1 = kn b.1 := by decide +kernel
theorem kind_diff : ∀ a b : Fin 16, (kt a.1).1 ≠ (kt b.1).1 → 0 < (kt a.1).2.length ∧ 0 < (kt b.1).2.length ∧ (kt a.1).2.getD 0 0 ≠ (kt b.1).2.getD 0 0 ∧ ((kt a.1).2.getD 0 0 < (kt b.1).2.getD 0 0 ↔ (kt a.1).1 < (kt b.1).1) ∧ (kt a.1).1 < 609 := by decide +kernel

theorem file_good {w m m' : Nat} (hw : w < 5) (hm : m < 65536) (hm' : m' < 65536) (l l' : List Nat) : Good w (fileT w m l) (fileT w m' l') := by
  have q : m / 4096 < 16 := by omega
  have q' : m' / 4096 < 16 := by omega
  unfold fileT
  by_cases h : (kt (m / 4096)).1 = (kt (m' / 4096)).1
  · obtain ⟨a, b⟩ := kind_same ⟨m / 4096, q⟩ ⟨m' / 4096, q'⟩ h
    have e : kt (m / 4096) = kt (m' / 4096) := Prod.ext h a
    have e2 : blankT m = blankT m' := by
      unfold blankT
      rw [show known m = known m' from b]
    rw [e, e2]
    exact .same (group_good (by decide) (group_good (by decide) (group_good (by decide) (.same (name_good hw l l')))))
  · obtain ⟨a, b, c, d, e⟩ := kind_diff ⟨m / 4096, q⟩ ⟨m' / 4096, q'⟩ h
    exact Good.cut (r := (kt (m / 4096)).1) (a := (kt (m / 4096)).2) (s := (kt (m' / 4096)).1) (b := (kt (m' / 4096)).2) 0 (alike_low (by have : (kt (m / 4096)).1 < 609 := e; omega)) rfl a b c d h

/-- the law, in plain -/
theorem plain_law {w m m' : Nat} (hw : w < 5) (hm : m < 65536) (hm' : m' < 65536) (l l' : List Nat) :
    lcp (flat (fileT w m l)) (flat (fileT w m' l')) = placeN w (ranksL w m l) (ranksL w m' l') (widthsL w m l) ∧ ltL (flat (fileT w m l)) (flat (fileT w m' l')) = ltL (ranksL w m l) (ranksL w m' l') := by
  have g := file_good hw hm hm' l l'
  have h1 := g.place
  have h2 := g.lt
  rw [rks_file, rks_file] at h1 h2
  rw [wds_file hw] at h1
  exact ⟨h1, h2⟩
end Mine

end
section
open PySem PySem.W PySem.Calls PyProof.Rows
set_option maxRecDepth 100000
namespace Mine

theorem locC_upd2 {S : Scope} {loc : Loc} {y z : Str} {u w : V} (h : (S.names.lookup y == some .free) = false) (h' : (S.names.lookup z == some .free) = false) : ∀ x v, locC S loc x = some v → upd (upd (locC S loc) y u) z w x = some v := fun x v e => by
  have h1 := locC_upd (w := u) h x v e
  unfold upd at h1 ⊢
  by_cases hx : x = z
  · subst hx; unfold locC at e; rw [h'] at e; cases e
  · rw [if_neg hx]; exact h1

/-- xs[i] -/
theorem EW.nth {B : Wd} {n : Nat} {env : Env} {loc : Loc} {H : List O} {Q : V → List O → Prop} {x y : Str} {k i : Nat} {vs : List V} {p1 p2 p3 : Pos} (v : V) (hx : loc x = some (.ref k)) (hy : loc y = some (.int (i : Int))) (hk : H[k]? = some (.list vs)) (hi : i ≤ 1000) (hv : vs[i]? = some v) (q : Q v H)
    (hd1 : (x == ("__debug__" : Str)) = false := by decide) (hc1 : (x == ("__classdict__" : Str)) = false := by decide) (hd2 : (y == ("__debug__" : Str)) = false := by decide) (hc2 : (y == ("__classdict__" : Str)) = false := by decide) :
    EW B n env loc (.Subscript (.Name x p1) (.Name y p2) p3) H Q :=
  EW.item (EW.name hx (EW.name hy (PW2.item hk (by omega) (by omega) (by rw [Int.toNat_natCast]; exact hv) q) hd2 hc2) hd1 hc1)

/-- the text of a file -/
def textV (w : Nat) (f : File) : V := .str (S (flat (fileT w f.1 f.2)))
/-- the row of a file's numbers -/
def IsRank (w : Nat) (H : List O) (k : Nat) (f : File) : Prop := H[k]? = some (natsO (ranksL w f.1 f.2))

theorem glue2 (a b : List Nat) : glue [32] [a, b] = a ++ [32] ++ b := rfl

theorem ranksL_len (w m : Nat) (l : List Nat) : (ranksL w m l).length ≤ 13 + l.length := by
  unfold ranksL nameR
  have := headR_len m
  rw [List.length_append, this]
  split <;> simp <;> omega
theorem widthsL_len (w m : Nat) (l : List Nat) : (widthsL w m l).length ≤ 13 + l.length := by
  unfold widthsL nameW
  have := headW_len m
  rw [List.length_append, this]
  split <;> simp <;> omega
theorem text_len {w m : Nat} (hm : m < 65536) (l : List Nat) (hl : l.length ≤ 100) : (flat (fileT w m l)).length ≤ 6000 := by
  rw [← text_is hm]
  have h1 := mapT_len (t := tabOf w) (by unfold tabOf; split <;> decide) (glue [32] ([fmL m, l].map quoteL))
  have h2 := quoteL_len (fmL m)
  have h3 := quoteL_len l
  have h4 : (fmL m).length = 10 := by simp [fmL, rows]
  rw [List.map_cons, List.map_cons, List.map_nil, glue2] at h1 ⊢
  rw [List.length_append, List.length_append] at h1
  simp only [List.length_cons, List.length_nil] at h1
  omega

theorem ints_of (ns : List Int) : intsOf (ns.map V.int) = some ns := by
  induction ns with
  | nil => rfl
  | cons a r ih => simp only [List.map_cons]; unfold intsOf; rw [ih]; rfl

theorem small_nat : ∀ b : Fin 8, Builtin.Range.small 0 ((b.1 : Nat) : Int) 1 = true := by decide +kernel

set_option maxHeartbeats 4000000 in
theorem law_rest {B : Wd} {n : Nat} {q : Str} {f : Addr} {cd : Value} {L : Addr} {v0 : V} (T : Top B) {ns : List Int} {H : List O} {kn : Nat} (hns : ns.length ≤ 14) (hkn : H[kn]? = some (.list (ns.map V.int))) :
    FW B (n + 6) (fenv lawS q f cd L) (execs (lawB.drop 1) (fenv lawS q f cd L)) (upd (locOf ["script"] [v0]) "numbers" (.ref kn)) H fun fl _ _ => fl = .ret (.bool true) := by
  have hsl : sizeLine = 16777216 := rfl
  have gsum : Glob B "sum" (.builtin "sum") := globB (T.bi _ (by simp)) (by decide) (by rfl)
  have glen : Glob B "len" (.builtin "len") := globB (T.bi _ (by simp)) (by decide) (by rfl)
  have gran : Glob B "range" (.type "range") := globB T.ran (by decide) (by rfl)
  obtain ⟨ff, hff, Ff⟩ := T.file
  obtain ⟨fm, hfm, Fm⟩ := T.fmode
  obtain ⟨fw, hfw, Fw⟩ := T.wby
  obtain ⟨fj, hfj, Fj, _⟩ := T.join
  obtain ⟨fr, hfr, Fr⟩ := T.rank
  obtain ⟨fd, hfd, Fd⟩ := T.wid
  obtain ⟨fc, hfc, Fc⟩ := T.comm
  obtain ⟨fp, hfp, Fp⟩ := T.plac
  refine SW.cons <| ST.assignC T.there <| EW.binop <| EW.call T.ok gsum (.builtin _) <| EWs.cons <| EW.name rfl <| EWs.nil <| CW.sum hkn (ints_of ns) <| EW.cint <| PW2.modI 5 (by decide) fun w hw => ?_
  refine SW.cons <| ST.assignC T.there ?_
  refine EW.gc0 <| EW.item <| EW.list ?_
  iterate 5 refine EWs.cons (EW.cstr ?_)
  refine EWs.nil ⟨by simp; exact (by decide : 5 ≤ sizeLine), ?_⟩
  refine EW.name rfl <| PW2.item (v := .str (S (spelledL w))) (get_last _ _) (by omega) (by omega) ?_ ⟨⟨_, rfl⟩, fun k e => (by cases e), ?_⟩
  · rw [Int.toNat_natCast]
    match w, hw with
    | 0, _ => rfl
    | 1, _ => rfl
    | 2, _ => rfl
    | 3, _ => rfl
    | 4, _ => rfl
    | k + 5, h => omega
  refine SW.cons <| ST.assign T.there <| EW.call T.ok (.top hff) Ff.callee <| EWs.cons <| EW.name rfl <| EWs.nil <| CW.mono (CW.lift (file_call (n := 0) T hff hkn hns) (by omega)) fun v H1 hv => ?_
  obtain ⟨G0, kf, ks, fs, rfl, rfl, FF, ok⟩ := hv
  have h2 := ok.1
  have h6 := ok.2.1
  have hkl := FF.len
  have hfile : ∀ (j : Nat) g, fs[j]? = some g → g.1 < 65536 ∧ g.2.length ≤ 15 := fun j g hg => by
    have := ok.2.2 g (List.mem_of_getElem? hg); exact ⟨this.1, by omega⟩
  have hsm : small fs := ⟨by omega, fun g hg => by have := (ok.2.2 g hg).2; omega⟩
  have l1 : upd (upd (upd (upd (locOf ["script"] [v0]) "numbers" (.ref kn)) "which" (.int (w : Int))) "spelled" (.str (S (spelledL w)))) "files" (.ref kf) "files" = some (.ref kf) := rfl
  have l2 : upd (upd (upd (upd (locOf ["script"] [v0]) "numbers" (.ref kn)) "which" (.int (w : Int))) "spelled" (.str (S (spelledL w)))) "files" (.ref kf) "which" = some (.int (w : Int)) := rfl
  have l3 : upd (upd (upd (upd (locOf ["script"] [v0]) "numbers" (.ref kn)) "which" (.int (w : Int))) "spelled" (.str (S (spelledL w)))) "files" (.ref kf) "spelled" = some (.str (S (spelledL w))) := rfl
  generalize upd (upd (upd (upd (locOf ["script"] [v0]) "numbers" (.ref kn)) "which" (.int (w : Int))) "spelled" (.str (S (spelledL w)))) "files" (.ref kf) = loc1 at *
  clear hkn
  generalize H ++ G0 = H1 at *
  have hall : ∀ j : Nat, j < ks.length → ∃ g, fs[j]? = some g ∧ ks[j]? = some (ks.getD j 0) ∧ (ks.map V.ref)[j]? = some (.ref (ks.getD j 0)) ∧ fs.take (j + 1) = fs.take j ++ [g] := fun j hj => by
    have hfj : fs[j]? = some (fs[j]'(by omega)) := List.getElem?_eq_getElem _
    have hkj : ks[j]? = some (ks.getD j 0) := getD_some hj
    exact ⟨_, hfj, hkj, by rw [List.getElem?_map, hkj]; rfl, by rw [List.take_add_one, hfj]; rfl⟩
  -- the texts
  refine SW.cons <| ST.assignComp T.there <| EW.name l1 ?_
  refine ⟨ks.map V.ref, fun H' => H'[kf]? = some (.list (ks.map V.ref)), fun i acc H' => (∃ G, H' = H1 ++ G) ∧ acc = (fs.take i).map (textV w), IT.list FF.l, by rw [List.length_map]; omega, ⟨⟨[], by simp⟩, rfl⟩, ?_, ?_, ?_⟩
  · rintro i acc H' ⟨⟨G, rfl⟩, rfl⟩
    exact ⟨getElem?_app FF.l, by rw [List.length_map, List.length_take]; omega⟩
  · rintro j v acc H' C hv ⟨⟨G, rfl⟩, rfl⟩
    have hj : j < ks.length := by have := (List.getElem?_eq_some_iff.mp hv).1; rwa [List.length_map] at this
    obtain ⟨g, hg, hkj, hvj, htk⟩ := hall j hj
    rw [hvj] at hv
    obtain rfl := (Option.some.inj hv).symm
    have hat := getElem?_app (m := G) (FF.at_ j _ _ hg hkj)
    obtain ⟨hm, hl⟩ := hfile j g hg
    obtain ⟨m, nm⟩ := g
    have hl : nm.length ≤ 15 := hl
    refine AW.pair T.there hat ⟨locC_upd2 rfl rfl, ?_⟩
    refine EW.call T.ok (.top hfw) Fw.callee <| EWs.cons <| EW.name (v := .int (w : Int)) l2 <| EWs.cons <| EW.call T.ok (.top hfj) Fj.callee <| EWs.cons <| EW.list <| EWs.cons <| EW.call T.ok (.top hfm) Fm.callee <| EWs.cons <| EW.name rfl <| EWs.nil <| CW.mono (CW.lift (fmode_call (n := 0) T hfm) (by omega)) fun v H6 hv => ?_
    obtain ⟨rfl, e⟩ := hv; obtain rfl := e.symm
    refine EWs.cons <| EW.name rfl <| EWs.nil ⟨by simp; exact (by decide : 2 ≤ sizeLine), EWs.nil <| CW.mono (CW.lift (join_call (n := 0) (ls := [fmL m, nm]) T hfj (get_last _ _) ?_ (by show 2 ≤ 100; decide)) (by omega)) fun v H6 hv => ?_⟩
    · intro l hl'
      have h4 : (fmL m).length = 10 := by simp [fmL, rows]
      rcases List.mem_cons.mp hl' with rfl | hl'
      · omega
      · rw [List.mem_singleton.mp hl']; omega
    obtain ⟨rfl, e⟩ := hv; obtain rfl := e.symm
    refine EWs.nil <| CW.mono (CW.lift (wby_call (n := 0) T hfw hw ?_) (by omega)) fun v H6 hv => ?_
    · have q2 := quoteL_len (fmL m)
      have q3 := quoteL_len nm
      have h4 : (fmL m).length = 10 := by simp [fmL, rows]
      rw [List.map_cons, List.map_cons, List.map_nil, glue2, List.length_append, List.length_append]
      simp only [List.length_cons, List.length_nil]
      omega
    obtain ⟨rfl, e⟩ := hv; obtain rfl := e.symm
    refine ⟨⟨_, List.append_assoc _ _ _⟩, ?_⟩
    rw [htk, List.map_append, text_is hm]; rfl
  rintro acc H' ⟨⟨G, rfl⟩, rfl⟩
  rw [List.take_of_length_le (show fs.length ≤ (ks.map V.ref).length by rw [List.length_map]; omega)]
  have hkt : (H1 ++ G ++ [O.list (fs.map (textV w))])[(H1 ++ G).length]? = some (.list (fs.map (textV w))) := get_last _ _
  have FF2 : Files (H1 ++ G ++ [O.list (fs.map (textV w))]) kf ks fs := (FF.app G).app _
  generalize H1 ++ G ++ [O.list (fs.map (textV w))] = H2 at *
  generalize (H1 ++ G).length = kt at *
  clear FF
  have m1 : upd loc1 "texts" (.ref kt) "files" = some (.ref kf) := l1
  have m2 : upd loc1 "texts" (.ref kt) "which" = some (.int (w : Int)) := l2
  have m3 : upd loc1 "texts" (.ref kt) "spelled" = some (.str (S (spelledL w))) := l3
  have m4 : upd loc1 "texts" (.ref kt) "texts" = some (.ref kt) := rfl
  generalize upd loc1 "texts" (.ref kt) = loc2 at *
  -- the rows of numbers
  refine SW.cons <| ST.assignComp T.there <| EW.name m1 ?_
  refine ⟨ks.map V.ref, fun H' => H'[kf]? = some (.list (ks.map V.ref)), fun i acc H' => (∃ G, H' = H2 ++ G) ∧ ∃ rs, acc = rs.map V.ref ∧ All2 (IsRank w H') rs (fs.take i), IT.list FF2.l, by rw [List.length_map]; omega, ⟨⟨[], by simp⟩, [], rfl, .nil⟩, ?_, ?_, ?_⟩
  · rintro i acc H' ⟨⟨G, rfl⟩, rs, rfl, ha⟩
    refine ⟨getElem?_app FF2.l, ?_⟩
    rw [List.length_map, ha.length, List.length_take]; omega
  · rintro j v acc H' C hv ⟨⟨G, rfl⟩, rs, rfl, ha⟩
    have hj : j < ks.length := by have := (List.getElem?_eq_some_iff.mp hv).1; rwa [List.length_map] at this
    obtain ⟨g, hg, hkj, hvj, htk⟩ := hall j hj
    rw [hvj] at hv
    obtain rfl := (Option.some.inj hv).symm
    have hat := getElem?_app (m := G) (FF2.at_ j _ _ hg hkj)
    obtain ⟨hm, hl⟩ := hfile j g hg
    obtain ⟨m, nm⟩ := g
    have hl : nm.length ≤ 15 := hl
    refine AW.pair T.there hat ⟨locC_upd2 rfl rfl, ?_⟩
    refine EW.call T.ok (.top hfr) Fr.callee <| EWs.cons <| EW.name rfl <| EWs.cons <| EW.name rfl <| EWs.cons <| EW.name (v := .str (S (spelledL w))) m3 <| EWs.nil <| CW.mono (CW.lift (rank_call (n := 0) (w := w) T hfr hm (by omega)) (by omega)) fun v H6 hv => ?_
    obtain ⟨G', k, rfl, rfl, hk⟩ := hv
    refine ⟨⟨_, List.append_assoc _ _ _⟩, rs ++ [k], by simp, ?_⟩
    rw [htk]
    exact (ha.imp fun a b h => getElem?_app h).app (.cons hk .nil)
  rintro acc H' ⟨⟨G, rfl⟩, rs, rfl, ha⟩
  rw [List.take_of_length_le (show fs.length ≤ (ks.map V.ref).length by rw [List.length_map]; omega)] at ha
  have hkr : (H2 ++ G ++ [O.list (rs.map V.ref)])[(H2 ++ G).length]? = some (.list (rs.map V.ref)) := get_last _ _
  have FF3 : Files (H2 ++ G ++ [O.list (rs.map V.ref)]) kf ks fs := (FF2.app G).app _
  have hkt3 : (H2 ++ G ++ [O.list (rs.map V.ref)])[kt]? = some (.list (fs.map (textV w))) := getElem?_app (getElem?_app hkt)
  have ha3 : All2 (IsRank w (H2 ++ G ++ [O.list (rs.map V.ref)])) rs fs := ha.imp fun a b h => getElem?_app h
  generalize H2 ++ G ++ [O.list (rs.map V.ref)] = H3 at *
  generalize (H2 ++ G).length = kr at *
  clear FF2 hkt ha
  have n1 : upd loc2 "ranks" (.ref kr) "files" = some (.ref kf) := m1
  have n2 : upd loc2 "ranks" (.ref kr) "which" = some (.int (w : Int)) := m2
  have n3 : upd loc2 "ranks" (.ref kr) "spelled" = some (.str (S (spelledL w))) := m3
  have n4 : upd loc2 "ranks" (.ref kr) "texts" = some (.ref kt) := m4
  have n5 : upd loc2 "ranks" (.ref kr) "ranks" = some (.ref kr) := rfl
  generalize upd loc2 "ranks" (.ref kr) = loc3 at *
  clear l1 l2 l3 m1 m2 m3 m4
  have hrl := ha3.length
  -- of one file: its text, its row
  have hone : ∀ j : Nat, j < fs.length → ∃ m nm k, fs[j]? = some (m, nm) ∧ m < 65536 ∧ nm.length ≤ 15 ∧ (fs.map (textV w))[j]? = some (.str (S (flat (fileT w m nm)))) ∧ (rs.map V.ref)[j]? = some (.ref k) ∧ H3[k]? = some (natsO (ranksL w m nm)) := fun j hj => by
    have hg : fs[j]? = some fs[j] := List.getElem?_eq_getElem _
    have hr : rs[j]? = some (rs[j]'(by omega)) := List.getElem?_eq_getElem _
    obtain ⟨a, b⟩ := hfile j _ hg
    exact ⟨fs[j].1, fs[j].2, _, hg, a, b, by rw [List.getElem?_map, hg]; rfl, by rw [List.getElem?_map, hr]; rfl, ha3.get hr hg⟩
  refine SW.cons <| ST.for T.there <| EW.call T.ok gran (.type _) <| EWs.cons <| EW.call T.ok glen (.builtin _) <| EWs.cons <| EW.name n1 <| EWs.nil <| CW.lenl FF3.l (by rw [List.length_map]; omega) ?_
  rw [List.length_map, hkl]
  refine EWs.nil <| CW.range1 ?_
  refine ⟨rangeOf 0 ((fs.length : Nat) : Int), fun _ => True, fun i loc H' => loc "files" = some (.ref kf) ∧ loc "which" = some (.int (w : Int)) ∧ loc "spelled" = some (.str (S (spelledL w))) ∧ loc "texts" = some (.ref kt) ∧ loc "ranks" = some (.ref kr) ∧ ∃ G, H' = H3 ++ G,
    IT.range (get_last _ _) (small_nat ⟨fs.length, by omega⟩), ⟨n1, n2, n3, n4, n5, _, rfl⟩, fun _ _ _ _ => trivial, ?_, ?_⟩
  · rintro k v loc H' hv ⟨n1, n2, n3, n4, n5, G, rfl⟩
    obtain ⟨hk, rfl⟩ := rangeOf_get hv
    obtain ⟨m, nm, rk, hg, hm, hl, htv, hrv, hrk⟩ := hone k hk
    refine AW.name T.there ?_
    have n1 : upd loc "k" (V.int (k : Int)) "files" = some (.ref kf) := n1
    have n2 : upd loc "k" (V.int (k : Int)) "which" = some (.int (w : Int)) := n2
    have n3 : upd loc "k" (V.int (k : Int)) "spelled" = some (.str (S (spelledL w))) := n3
    have n4 : upd loc "k" (V.int (k : Int)) "texts" = some (.ref kt) := n4
    have n5 : upd loc "k" (V.int (k : Int)) "ranks" = some (.ref kr) := n5
    have n6 : upd loc "k" (V.int (k : Int)) "k" = some (.int (k : Int)) := rfl
    generalize upd loc "k" (V.int (k : Int)) = loc4 at *
    refine SW.cons <| ST.assign T.there <| EW.call T.ok (.top hfd) Fd.callee <| EWs.cons <| EW.cell0 n1 n6 (FF3.app G) hsm hg <| EWs.cons <| EW.cell1 n1 n6 (FF3.app G) hsm hg <| EWs.cons <| EW.name n3 <| EWs.nil <| CW.mono (CW.lift (wid_call (n := 0) (w := w) T hfd (by show nm.length ≤ 1000; omega)) (by omega)) fun v H6 hv => ?_
    obtain ⟨G', kw, rfl, rfl, hkw⟩ := hv
    have hkw : (H3 ++ G ++ G')[kw]? = some (natsO (widthsL w m nm)) := hkw
    have o1 : upd loc4 "widths" (.ref kw) "files" = some (.ref kf) := n1
    have o2 : upd loc4 "widths" (.ref kw) "which" = some (.int (w : Int)) := n2
    have o3 : upd loc4 "widths" (.ref kw) "spelled" = some (.str (S (spelledL w))) := n3
    have o4 : upd loc4 "widths" (.ref kw) "texts" = some (.ref kt) := n4
    have o5 : upd loc4 "widths" (.ref kw) "ranks" = some (.ref kr) := n5
    have o6 : upd loc4 "widths" (.ref kw) "k" = some (.int (k : Int)) := n6
    have o7 : upd loc4 "widths" (.ref kw) "widths" = some (.ref kw) := rfl
    generalize upd loc4 "widths" (.ref kw) = loc5 at *
    refine SW.cons <| ST.for T.there <| EW.call T.ok gran (.type _) <| EWs.cons <| EW.binop <| EW.name o6 <| EW.cint <| PW2.addN k 1 <| EWs.nil <| CW.range1 ?_
    refine ⟨rangeOf 0 ((k + 1 : Nat) : Int), fun _ => True, fun i loc H' => loc "files" = some (.ref kf) ∧ loc "which" = some (.int (w : Int)) ∧ loc "spelled" = some (.str (S (spelledL w))) ∧ loc "texts" = some (.ref kt) ∧ loc "ranks" = some (.ref kr) ∧ loc "k" = some (.int (k : Int)) ∧ loc "widths" = some (.ref kw) ∧ ∃ G2, H' = H3 ++ G ++ G' ++ G2,
      IT.range (get_last _ _) (small_nat ⟨k + 1, by omega⟩), ⟨o1, o2, o3, o4, o5, o6, o7, _, rfl⟩, fun _ _ _ _ => trivial, ?_, ?_⟩
    · rintro i v loc H' hv ⟨o1, o2, o3, o4, o5, o6, o7, G2, rfl⟩
      obtain ⟨hi, rfl⟩ := rangeOf_get hv
      obtain ⟨m', nm', rk', hg', hm', hl', htv', hrv', hrk'⟩ := hone i (by omega)
      refine AW.name T.there ?_
      have o1 : upd loc "i" (V.int (i : Int)) "files" = some (.ref kf) := o1
      have o2 : upd loc "i" (V.int (i : Int)) "which" = some (.int (w : Int)) := o2
      have o3 : upd loc "i" (V.int (i : Int)) "spelled" = some (.str (S (spelledL w))) := o3
      have o4 : upd loc "i" (V.int (i : Int)) "texts" = some (.ref kt) := o4
      have o5 : upd loc "i" (V.int (i : Int)) "ranks" = some (.ref kr) := o5
      have o6 : upd loc "i" (V.int (i : Int)) "k" = some (.int (k : Int)) := o6
      have o7 : upd loc "i" (V.int (i : Int)) "widths" = some (.ref kw) := o7
      have o8 : upd loc "i" (V.int (i : Int)) "i" = some (.int (i : Int)) := rfl
      generalize upd loc "i" (V.int (i : Int)) = loc6 at *
      -- what lies in the ledger still
      have up : ∀ {a : Nat} {o : O}, H3[a]? = some o → (H3 ++ G ++ G' ++ G2)[a]? = some o := fun h => getElem?_app (getElem?_app (getElem?_app h))
      have t1 := text_len (w := w) hm nm (by omega)
      have t2 := text_len (w := w) hm' nm' (by omega)
      have r1 := ranksL_len w m nm
      have r2 := ranksL_len w m' nm'
      have r3 := widthsL_len w m nm
      obtain ⟨p1, p2⟩ := plain_law hw hm hm' nm nm'
      obtain ⟨_, p3⟩ := plain_law hw hm' hm nm' nm
      refine SW.cons <| ST.ite <| TW.compare <| EW.call T.ok (.top hfc) Fc.callee <| EWs.cons <| EW.nth _ o4 o6 (up hkt3) (by omega) htv <| EWs.cons <| EW.nth _ o4 o8 (up hkt3) (by omega) htv' <| EWs.nil <| CW.mono (CW.lift (comm_call (n := 0) T hfc (by omega) (by omega)) (by omega)) fun v H6 hv => ?_
      obtain ⟨rfl, e⟩ := hv; obtain rfl := e.symm
      refine EW.call T.ok (.top hfp) Fp.callee <| EWs.cons <| EW.nth _ o5 o6 (up hkr) (by omega) hrv <| EWs.cons <| EW.nth _ o5 o8 (up hkr) (by omega) hrv' <| EWs.cons <| EW.name o7 <| EWs.cons <| EW.name o2 <| EWs.nil <| CW.mono (CW.lift (plac_call (n := 0) T hfp (up hrk) (up hrk') (getElem?_app hkw) (by omega) (by omega) (by omega)) (by omega)) fun v H6 hv => ?_
      obtain ⟨rfl, e⟩ := hv; obtain rfl := e.symm
      refine PW2.nei <| TV.bool ?_
      rw [p1, show (((placeN w (ranksL w m nm) (ranksL w m' nm') (widthsL w m nm) : Nat) : Int) != ((placeN w (ranksL w m nm) (ranksL w m' nm') (widthsL w m nm) : Nat) : Int)) = false by simp]
      refine SW.nil ?_
      refine SW.cons <| ST.ite <| TW.or2 <| TW.compare <| EW.compare <| EW.nth _ o4 o6 (up hkt3) (by omega) htv <| EW.nth _ o4 o8 (up hkt3) (by omega) htv' <| PW2.lts ?_
      refine EW.compare <| EW.nth _ o5 o6 (up hkr) (by omega) hrv <| EW.nth _ o5 o8 (up hkr) (by omega) hrv' <| PW2.ltl (up hrk) (up hrk') (intsOf_nat _) (intsOf_nat _) <| PW2.neb <| TV.bool ?_
      rw [S_cps, S_cps, ltL_dec, ltI_cast, p2, bne_self_eq_false]
      refine TW.compare <| EW.compare <| EW.nth _ o4 o6 (up hkt3) (by omega) htv <| EW.nth _ o4 o8 (up hkt3) (by omega) htv' <| PW2.gts ?_
      refine EW.compare <| EW.nth _ o5 o6 (up hkr) (by omega) hrv <| EW.nth _ o5 o8 (up hkr) (by omega) hrv' <| PW2.gtl (up hrk) (up hrk') (intsOf_nat _) (intsOf_nat _) <| PW2.neb <| TV.bool ?_
      rw [S_cps, S_cps, ltL_dec, ltI_cast, p3, bne_self_eq_false]
      exact SW.nil <| SW.nil ⟨o1, o2, o3, o4, o5, o6, o7, G2, rfl⟩
    · rintro loc H' ⟨o1, o2, o3, o4, o5, o6, o7, G2, rfl⟩
      exact SW.nil <| SW.nil ⟨o1, o2, o3, o4, o5, G ++ G' ++ G2, by simp⟩
  · rintro loc H' _
    refine SW.nil ?_
    exact SW.cons <| ST.ret <| EW.cbool rfl

end Mine

end
section
open PySem PySem.W PySem.Calls PyProof.Rows
set_option maxRecDepth 100000
namespace Mine

set_option maxHeartbeats 1000000 in
theorem law_call {B : Wd} {n : Nat} {f a : Addr} {is : List Int} (T : Top B.tick) (ht : B.t0 ≤ 1) (F : Fn B f ["script"] lawB lawS) (X : XL B.tick a is) (hl : is.length ≤ 63) :
    CW B (n + 7) (.ref f) [.ext a] [] fun v _ => v = .bool true := by
  have hsl : sizeLine = 16777216 := rfl
  have W : B.Ok := ⟨T.ok.g, T.ok.b, T.ok.nolimit, T.ok.builtins, T.ok.bmain, T.ok.pg, T.ok.pb, T.ok.ps, T.ok.pc⟩
  refine CW.def2 W ⟨T.there.c, T.there.P⟩ ht F (fun q cd L => ?_) (by decide +kernel)
  have fin : ∀ (fl : Fl) (loc' : Loc) (H' : List O), fl = Fl.ret (.bool true) → ∃ (loc2 : Loc) (H2 G : List O), H' = H2 ++ G ∧ ([] : List O).length ≤ H2.length ∧ (∀ o ∈ H2, o.Closed H2.length) ∧ (∀ x v, loc2 x = some v → loc' x = some v) ∧ LocClosed loc2 H2.length ∧ fl.Closed H2.length ∧ (∃ v, fl = .ret v ∧ H2 = [] ∧ v.Closed ([] : List O).length ∧ v = .bool true) := fun fl loc' H' e => by
    subst e
    exact ⟨fun _ => none, [], H', rfl, Nat.le_refl _, fun o h => (by cases h), fun x v h => (by cases h), fun x k h => (by cases h), fun k e => (by cases e), _, rfl, rfl, fun k e => (by cases e), rfl⟩
  refine FW.gc (FW.mono ?_ fin)
  refine SW.cons <| ST.assign T.there <| EW.ifexp <| TW.compare <| EW.name rfl <| EW.list <| EWs.nil ⟨by decide, PW2.neNilX X rfl <| TV.bool ?_⟩
  cases hc : !is.isEmpty with
  | true =>
    refine EW.sliceX <| EW.name rfl <| EW.cint ⟨a, is, 14, rfl, X, rfl, by decide, by omega, ?_⟩
    exact law_rest T (by rw [List.length_take]; exact Nat.min_le_left _ _) (get_last _ _)
  | false =>
    refine EW.ints (is := [45, 3, 2, 35, 27]) rfl (by decide) ?_
    exact law_rest T (by decide) (get_last _ _)
end Mine

end
section
open PySem PySem.W PyProof.Rows
namespace Mine02
set_option maxRecDepth 100000
set_option maxHeartbeats 8000000
open_top hd for PySem.Challenge.rw_op0104_02
end Mine02

end
section
open PySem PySem.W PySem.Calls PyProof.Rows
set_option maxRecDepth 100000
namespace Mine
theorem neq {a b : Nat} (h : Nat.beq a b = false) : a ≠ b := fun e => by subst e; rw [Nat.beq_refl] at h; cases h
/-- a def, as the written heap holds it -/
def FnAt (K : Frag) (f c : Addr) (names : List Str) (body : List Stmt) (S : Scope) : Prop := ∃ o fd oc vs t, K.lookup f = some o ∧ o.data = .func fd ∧ fd.scope = S ∧ fd.body = .stmts body ∧ fd.closure = [] ∧ fd.globals = mainGlobals ∧ fd.builtins = builtinsNs ∧ fd.code = .ref c ∧
  K.lookup c = some oc ∧ oc.data = .fields vs ∧ vs[1]? = some (.str fd.qualname t) ∧ ∀ vals : List Value, vals.length = names.length → bindArgs fd ⟨vals, []⟩ = pure (names.zip vals)
theorem FnAt.fn {B : Wd} {K : Frag} {f c names body S} (h : FnAt K f c names body S) (KX : K.In B.hb) (hf : f ≠ B.P) (hc : c ≠ B.P) : Fn B f names body S := by
  obtain ⟨o, fd, oc, vs, t, h1, h2, h3, h4, h5, h6, h7, h8, h9, h10, h11, h12⟩ := h
  exact ⟨⟨o, fd, KX _ _ h1, h2, h3, h4, h5, h6, h7, ⟨c, oc, vs, t, h8, hc, KX _ _ h9, h10, h11⟩, h12⟩, hf⟩
theorem FnAt.code {B : Wd} {K : Frag} {f c names body S} (h : FnAt K f c names body S) (KX : K.In B.hb) : ∀ o fd, B.hb.get? f = some o → o.data = .func fd → fd.code = .ref c := by
  obtain ⟨o, fd, oc, vs, t, h1, h2, h3, h4, h5, h6, h7, h8, h9, h10, h11, h12⟩ := h
  intro o' fd' e1 e2
  rw [KX _ _ h1] at e1; cases e1
  rw [h2] at e2; cases e2
  exact h8
theorem mg_is {h : Heap} {mg : Str → Option Value} {K : Frag} (KX : K.In h) (hn : h.Ns mainGlobals mg) {o : Obj} {es n} (e : K.lookup mainGlobals = some o) (ed : o.data = .dict es n) (x : Str) : mg x = nsFind es x := by
  obtain ⟨o', es', ep, h1, h2, _, h3⟩ := hn
  rw [KX _ _ e] at h1; cases h1
  rw [ed] at h2; cases h2
  exact (h3 x).symm
theorem pair_of {B : Wd} {K : Frag} (KX : K.In B.hb) {a : Addr} {p : Nat × Nat} {t u : Tok} {n : Nat} (e : K.lookup a = some { cls := .type "tuple", data := .seq #[.int (p.1 : Int) t, .str (S [p.2]) u] n }) (hP : a ≠ B.P) : PairAt B (.ref a) p :=
  ⟨a, t, u, rfl, ⟨_, KX _ _ e, rfl, n, rfl⟩, hP⟩
theorem row_of {B : Wd} {K : Frag} (KX : K.In B.hb) {a : Addr} {r : List (Nat × Nat)} {n : Nat} (as : List Addr) (e : K.lookup a = some { cls := .type "tuple", data := .seq (as.map Value.ref).toArray n }) (hP : a ≠ B.P) (h : All2 (fun b p => PairAt B (.ref b) p) as r) : RowAt B (.ref a) r :=
  ⟨a, as.map Value.ref, rfl, ⟨_, KX _ _ e, rfl, n, rfl⟩, hP, by rw [List.length_map]; exact h.length, fun i p hp => by
    have hl := h.length
    have hi := (List.getElem?_eq_some_iff.mp hp).1
    have hb : as[i]? = some (as[i]'(by omega)) := List.getElem?_eq_getElem _
    exact ⟨_, by rw [List.getElem?_map, hb]; rfl, h.get hb hp⟩⟩
theorem tbl_of {B : Wd} {K : Frag} (KX : K.In B.hb) {a : Addr} {n : Nat} (as : List Addr) (hm : B.mg "_filemode_table" = some (.ref a)) (e : K.lookup a = some { cls := .type "tuple", dict := none, data := .seq (as.map Value.ref).toArray n, slots := #[] }) (hP : a ≠ B.P) (h : All2 (fun b r => RowAt B (.ref b) r) as rows) : TblAt B :=
  ⟨a, as.map Value.ref, n, hm, KX _ _ e, hP, by rw [List.length_map]; exact h.length, fun i r hr => by
    have hl := h.length
    have hi := (List.getElem?_eq_some_iff.mp hr).1
    have hb : as[i]? = some (as[i]'(by omega)) := List.getElem?_eq_getElem _
    exact ⟨_, by rw [List.getElem?_map, hb]; rfl, h.get hb hr⟩⟩

theorem len1 {l : List Value} (h : l.length = 1) : ∃ v0, l = [v0] := by
  cases l with
  | nil => cases h
  | cons a r => cases r with
    | nil => exact ⟨a, rfl⟩
    | cons b r => cases h
theorem len2 {l : List Value} (h : l.length = 2) : ∃ v0 v1, l = [v0, v1] := by
  cases l with
  | nil => cases h
  | cons a r =>
    obtain ⟨v1, rfl⟩ := len1 (Nat.succ.inj h)
    exact ⟨a, v1, rfl⟩
theorem len3 {l : List Value} (h : l.length = 3) : ∃ v0 v1 v2, l = [v0, v1, v2] := by
  cases l with
  | nil => cases h
  | cons a r =>
    obtain ⟨v1, v2, rfl⟩ := len2 (Nat.succ.inj h)
    exact ⟨a, v1, v2, rfl⟩
theorem len4 {l : List Value} (h : l.length = 4) : ∃ v0 v1 v2 v3, l = [v0, v1, v2, v3] := by
  cases l with
  | nil => cases h
  | cons a r =>
    obtain ⟨v1, v2, v3, rfl⟩ := len3 (Nat.succ.inj h)
    exact ⟨a, v1, v2, v3, rfl⟩
theorem at_join (P : Params) : FnAt (Mine02.hd.heap_39 P) 90 89 ["split_command"] joinB joinS := by
  refine ⟨_, _, _, _, _, rfl, rfl, rfl, rfl, rfl, rfl, rfl, rfl, rfl, rfl, rfl, fun vals h => ?_⟩
  obtain ⟨v0, rfl⟩ := len1 h
  rfl
theorem at_quote (P : Params) : FnAt (Mine02.hd.heap_39 P) 98 97 ["s"] quoteB quoteS := by
  refine ⟨_, _, _, _, _, rfl, rfl, rfl, rfl, rfl, rfl, rfl, rfl, rfl, rfl, rfl, fun vals h => ?_⟩
  obtain ⟨v0, rfl⟩ := len1 h
  rfl
theorem at_ifmt (P : Params) : FnAt (Mine02.hd.heap_39 P) 38 37 ["mode"] ifmtB ifmtS := by
  refine ⟨_, _, _, _, _, rfl, rfl, rfl, rfl, rfl, rfl, rfl, rfl, rfl, rfl, rfl, fun vals h => ?_⟩
  obtain ⟨v0, rfl⟩ := len1 h
  rfl
theorem at_fmode (P : Params) : FnAt (Mine02.hd.heap_39 P) 78 77 ["mode"] fmodeB fmodeS := by
  refine ⟨_, _, _, _, _, rfl, rfl, rfl, rfl, rfl, rfl, rfl, rfl, rfl, rfl, rfl, fun vals h => ?_⟩
  obtain ⟨v0, rfl⟩ := len1 h
  rfl
theorem at_esc0 (P : Params) : FnAt (Mine02.hd.heap_39 P) 119 118 ["text"] esc0B esc0S := by
  refine ⟨_, _, _, _, _, rfl, rfl, rfl, rfl, rfl, rfl, rfl, rfl, rfl, rfl, rfl, fun vals h => ?_⟩
  obtain ⟨v0, rfl⟩ := len1 h
  rfl
theorem at_esc1 (P : Params) : FnAt (Mine02.hd.heap_39 P) 140 139 ["text"] esc1B esc1S := by
  refine ⟨_, _, _, _, _, rfl, rfl, rfl, rfl, rfl, rfl, rfl, rfl, rfl, rfl, rfl, fun vals h => ?_⟩
  obtain ⟨v0, rfl⟩ := len1 h
  rfl
theorem at_esc2 (P : Params) : FnAt (Mine02.hd.heap_39 P) 126 125 ["text"] esc2B esc2S := by
  refine ⟨_, _, _, _, _, rfl, rfl, rfl, rfl, rfl, rfl, rfl, rfl, rfl, rfl, rfl, fun vals h => ?_⟩
  obtain ⟨v0, rfl⟩ := len1 h
  rfl
theorem at_esc3 (P : Params) : FnAt (Mine02.hd.heap_39 P) 112 111 ["text"] esc3B esc3S := by
  refine ⟨_, _, _, _, _, rfl, rfl, rfl, rfl, rfl, rfl, rfl, rfl, rfl, rfl, rfl, fun vals h => ?_⟩
  obtain ⟨v0, rfl⟩ := len1 h
  rfl
theorem at_esc4 (P : Params) : FnAt (Mine02.hd.heap_39 P) 133 132 ["text"] esc4B esc4S := by
  refine ⟨_, _, _, _, _, rfl, rfl, rfl, rfl, rfl, rfl, rfl, rfl, rfl, rfl, rfl, fun vals h => ?_⟩
  obtain ⟨v0, rfl⟩ := len1 h
  rfl
theorem at_wby (P : Params) : FnAt (Mine02.hd.heap_39 P) 199 198 ["which", "line"] wbyB wbyS := by
  refine ⟨_, _, _, _, _, rfl, rfl, rfl, rfl, rfl, rfl, rfl, rfl, rfl, rfl, rfl, fun vals h => ?_⟩
  obtain ⟨v0, v1, rfl⟩ := len2 h
  rfl
theorem at_sign (P : Params) : FnAt (Mine02.hd.heap_39 P) 147 146 ["x"] signB signS := by
  refine ⟨_, _, _, _, _, rfl, rfl, rfl, rfl, rfl, rfl, rfl, rfl, rfl, rfl, rfl, fun vals h => ?_⟩
  obtain ⟨v0, rfl⟩ := len1 h
  rfl
theorem at_bare (P : Params) : FnAt (Mine02.hd.heap_39 P) 152 151 ["word"] bareB bareS := by
  refine ⟨_, _, _, _, _, rfl, rfl, rfl, rfl, rfl, rfl, rfl, rfl, rfl, rfl, rfl, fun vals h => ?_⟩
  obtain ⟨v0, rfl⟩ := len1 h
  rfl
theorem at_file (P : Params) : FnAt (Mine02.hd.heap_39 P) 159 158 ["numbers"] fileB fileS := by
  refine ⟨_, _, _, _, _, rfl, rfl, rfl, rfl, rfl, rfl, rfl, rfl, rfl, rfl, rfl, fun vals h => ?_⟩
  obtain ⟨v0, rfl⟩ := len1 h
  rfl
theorem at_rank (P : Params) : FnAt (Mine02.hd.heap_39 P) 164 163 ["mode", "name", "spelled"] rankB rankS := by
  refine ⟨_, _, _, _, _, rfl, rfl, rfl, rfl, rfl, rfl, rfl, rfl, rfl, rfl, rfl, fun vals h => ?_⟩
  obtain ⟨v0, v1, v2, rfl⟩ := len3 h
  rfl
theorem at_wid (P : Params) : FnAt (Mine02.hd.heap_39 P) 171 170 ["mode", "name", "spelled"] widB widS := by
  refine ⟨_, _, _, _, _, rfl, rfl, rfl, rfl, rfl, rfl, rfl, rfl, rfl, rfl, rfl, fun vals h => ?_⟩
  obtain ⟨v0, v1, v2, rfl⟩ := len3 h
  rfl
theorem at_alik (P : Params) : FnAt (Mine02.hd.heap_39 P) 178 177 ["low", "high", "which"] alikB alikS := by
  refine ⟨_, _, _, _, _, rfl, rfl, rfl, rfl, rfl, rfl, rfl, rfl, rfl, rfl, rfl, fun vals h => ?_⟩
  obtain ⟨v0, v1, v2, rfl⟩ := len3 h
  rfl
theorem at_plac (P : Params) : FnAt (Mine02.hd.heap_39 P) 185 184 ["one", "other", "widths", "which"] placB placS := by
  refine ⟨_, _, _, _, _, rfl, rfl, rfl, rfl, rfl, rfl, rfl, rfl, rfl, rfl, rfl, fun vals h => ?_⟩
  obtain ⟨v0, v1, v2, v3, rfl⟩ := len4 h
  rfl
theorem at_comm (P : Params) : FnAt (Mine02.hd.heap_39 P) 192 191 ["one", "other"] commB commS := by
  refine ⟨_, _, _, _, _, rfl, rfl, rfl, rfl, rfl, rfl, rfl, rfl, rfl, rfl, rfl, fun vals h => ?_⟩
  obtain ⟨v0, v1, rfl⟩ := len2 h
  rfl
theorem at_law (P : Params) : FnAt (Mine02.hd.heap_39 P) 204 203 ["script"] lawB lawS := by
  refine ⟨_, _, _, _, _, rfl, rfl, rfl, rfl, rfl, rfl, rfl, rfl, rfl, rfl, rfl, fun vals h => ?_⟩
  obtain ⟨v0, rfl⟩ := len1 h
  rfl

theorem has_join : ((recsOf Mine02.hd.view_39).any fun d => d.name == ("join" : Str)) = true := by kernel_rfl

/-- what the head tells of the world -/
structure HeadAt (mg mb : Str → Option Value) (h : Heap) : Prop where
  g : h.Ns mainGlobals mg
  b : h.Ns builtinsNs mb
  nolimit : h.NoLimit
  statics : ∃ mc, h.Ns cStatics mc
  builtins : ∀ x : Str, x ≠ "__name__" → mb x = bootBuiltins x
  bmain : ∃ bm ob, mg "__builtins__" = some (.ref bm) ∧ bm ≠ builtinsNs ∧ h.get? bm = some ob ∧ ob.cls = .type "module" ∧ ob.dict = some builtinsNs ∧ ob.data = .plain
  tab : h.IsCode 89 85 #[] ∧ h.TableAt 89 85 #[]

def theWd (prog : Program) (w : World) (s : Shared) (mg mb : Str → Option Value) : Wd := { prog, w, hb := s.heap, os := s.os, mg, mb, c := 89, P := 85, gr := true, t0 := 0, gk := fun g _ => AllBare g, ps0 := #[] }

set_option maxHeartbeats 1000000 in
theorem top_is {prog : Program} {w : World} {s : Shared} {mg mb : Str → Option Value} (T : HeadAt mg mb s.heap) (KX : (Mine02.hd.heap_39 w.params).In s.heap) : Top (theWd prog w s mg mb).tick ∧ Fn (theWd prog w s mg mb) 204 ["script"] lawB lawS ∧ mg "law" = some (.ref 204) := by
  have hm := fun x => mg_is (K := Mine02.hd.heap_39 w.params) KX T.g rfl rfl x
  have hP : s.heap.get? 85 = some { cls := .none, data := .fields #[] } := T.tab.2.2
  have nP : ∀ (a : Addr) (o : Obj), s.heap.get? a = some o → (o.cls ≠ .none ∨ ∀ vs, o.data ≠ .fields vs) → a ≠ 85 := fun a o e h q => by
    subst q
    rw [hP] at e; cases e
    rcases h with h | h
    · exact h rfl
    · exact h _ rfl
  have nsP : ∀ (a : Addr) (m : Str → Option Value), s.heap.Ns a m → a ≠ 85 := fun a m h => by
    obtain ⟨o, es, ep, e, ed, _⟩ := h
    exact nP a o e (.inr fun vs q => by rw [ed] at q; cases q)
  have KX' : (Mine02.hd.heap_39 w.params).In (theWd prog w s mg mb).tick.hb := KX
  obtain ⟨bm, ob, b1, b2, b3, b4, b5, b6⟩ := T.bmain
  obtain ⟨mc, hmc⟩ := T.statics
  have ok : (theWd prog w s mg mb).tick.Ok := ⟨T.g, T.b, T.nolimit, T.builtins, ⟨bm, ob, b1, b2, b3, b4, b5, b6, nP bm ob b3 (.inl (by rw [b4]; nofun))⟩, nsP _ _ T.g, nsP _ _ T.b, nsP _ _ hmc, neq rfl⟩
  have there : (theWd prog w s mg mb).tick.There := ⟨(by obtain ⟨⟨o, _, e, _⟩, _⟩ := T.tab.2; exact ⟨o, e⟩), ⟨_, hP⟩⟩
  have h_join : Has (theWd prog w s mg mb).tick "join" ["split_command"] joinB joinS := ⟨90, (hm _).trans (by rfl), (at_join w.params).fn KX' (neq rfl) (neq rfl)⟩
  have h_quote : Has (theWd prog w s mg mb).tick "quote" ["s"] quoteB quoteS := ⟨98, (hm _).trans (by rfl), (at_quote w.params).fn KX' (neq rfl) (neq rfl)⟩
  have h_ifmt : Has (theWd prog w s mg mb).tick "S_IFMT" ["mode"] ifmtB ifmtS := ⟨38, (hm _).trans (by rfl), (at_ifmt w.params).fn KX' (neq rfl) (neq rfl)⟩
  have h_fmode : Has (theWd prog w s mg mb).tick "filemode" ["mode"] fmodeB fmodeS := ⟨78, (hm _).trans (by rfl), (at_fmode w.params).fn KX' (neq rfl) (neq rfl)⟩
  have h_esc0 : Has (theWd prog w s mg mb).tick "_escape_attrib" ["text"] esc0B esc0S := ⟨119, (hm _).trans (by rfl), (at_esc0 w.params).fn KX' (neq rfl) (neq rfl)⟩
  have h_esc1 : Has (theWd prog w s mg mb).tick "_escape_attrib_c14n" ["text"] esc1B esc1S := ⟨140, (hm _).trans (by rfl), (at_esc1 w.params).fn KX' (neq rfl) (neq rfl)⟩
  have h_esc2 : Has (theWd prog w s mg mb).tick "_escape_attrib_html" ["text"] esc2B esc2S := ⟨126, (hm _).trans (by rfl), (at_esc2 w.params).fn KX' (neq rfl) (neq rfl)⟩
  have h_esc3 : Has (theWd prog w s mg mb).tick "_escape_cdata" ["text"] esc3B esc3S := ⟨112, (hm _).trans (by rfl), (at_esc3 w.params).fn KX' (neq rfl) (neq rfl)⟩
  have h_esc4 : Has (theWd prog w s mg mb).tick "_escape_cdata_c14n" ["text"] esc4B esc4S := ⟨133, (hm _).trans (by rfl), (at_esc4 w.params).fn KX' (neq rfl) (neq rfl)⟩
  have h_wby : Has (theWd prog w s mg mb).tick "_law_written_by" ["which", "line"] wbyB wbyS := ⟨199, (hm _).trans (by rfl), (at_wby w.params).fn KX' (neq rfl) (neq rfl)⟩
  have h_sign : Has (theWd prog w s mg mb).tick "_law_sign" ["x"] signB signS := ⟨147, (hm _).trans (by rfl), (at_sign w.params).fn KX' (neq rfl) (neq rfl)⟩
  have h_bare : Has (theWd prog w s mg mb).tick "_law_bare" ["word"] bareB bareS := ⟨152, (hm _).trans (by rfl), (at_bare w.params).fn KX' (neq rfl) (neq rfl)⟩
  have h_file : Has (theWd prog w s mg mb).tick "_law_files" ["numbers"] fileB fileS := ⟨159, (hm _).trans (by rfl), (at_file w.params).fn KX' (neq rfl) (neq rfl)⟩
  have h_rank : Has (theWd prog w s mg mb).tick "_law_ranks" ["mode", "name", "spelled"] rankB rankS := ⟨164, (hm _).trans (by rfl), (at_rank w.params).fn KX' (neq rfl) (neq rfl)⟩
  have h_wid : Has (theWd prog w s mg mb).tick "_law_widths" ["mode", "name", "spelled"] widB widS := ⟨171, (hm _).trans (by rfl), (at_wid w.params).fn KX' (neq rfl) (neq rfl)⟩
  have h_alik : Has (theWd prog w s mg mb).tick "_law_alike" ["low", "high", "which"] alikB alikS := ⟨178, (hm _).trans (by rfl), (at_alik w.params).fn KX' (neq rfl) (neq rfl)⟩
  have h_plac : Has (theWd prog w s mg mb).tick "_law_place" ["one", "other", "widths", "which"] placB placS := ⟨185, (hm _).trans (by rfl), (at_plac w.params).fn KX' (neq rfl) (neq rfl)⟩
  have h_comm : Has (theWd prog w s mg mb).tick "_law_common" ["one", "other"] commB commS := ⟨192, (hm _).trans (by rfl), (at_comm w.params).fn KX' (neq rfl) (neq rfl)⟩
  have h_find : ∃ f p cd, (theWd prog w s mg mb).tick.mg "_find_unsafe" = some (.ref f) ∧ ReAt (theWd prog w s mg mb).tick.hb f p cd ∧ f ≠ (theWd prog w s mg mb).tick.P ∧ p ≠ (theWd prog w s mg mb).tick.P ∧ cd ≠ (theWd prog w s mg mb).tick.P :=
    ⟨91, 83, 82, (hm _).trans (by rfl), ⟨⟨_, KX _ _ rfl, rfl, rfl⟩, ⟨_, _, KX _ _ rfl, rfl, rfl, rfl, rfl, rfl⟩, ⟨_, _, _, KX _ _ rfl, rfl, by decide +kernel⟩⟩, neq rfl, neq rfl, neq rfl⟩
  have h_tbl : TblAt (theWd prog w s mg mb).tick := tbl_of KX' [46, 48, 50, 54, 56, 58, 62, 64, 66, 70] ((hm _).trans (by rfl)) rfl (neq rfl) (.cons (row_of KX' [39, 40, 41, 42, 43, 44, 45] rfl (neq rfl) (.cons (pair_of KX' rfl (neq rfl)) (.cons (pair_of KX' rfl (neq rfl)) (.cons (pair_of KX' rfl (neq rfl)) (.cons (pair_of KX' rfl (neq rfl)) (.cons (pair_of KX' rfl (neq rfl)) (.cons (pair_of KX' rfl (neq rfl)) (.cons (pair_of KX' rfl (neq rfl)) .nil)))))))) (.cons (row_of KX' [47] rfl (neq rfl) (.cons (pair_of KX' rfl (neq rfl)) .nil)) (.cons (row_of KX' [49] rfl (neq rfl) (.cons (pair_of KX' rfl (neq rfl)) .nil)) (.cons (row_of KX' [51, 52, 53] rfl (neq rfl) (.cons (pair_of KX' rfl (neq rfl)) (.cons (pair_of KX' rfl (neq rfl)) (.cons (pair_of KX' rfl (neq rfl)) .nil)))) (.cons (row_of KX' [55] rfl (neq rfl) (.cons (pair_of KX' rfl (neq rfl)) .nil)) (.cons (row_of KX' [57] rfl (neq rfl) (.cons (pair_of KX' rfl (neq rfl)) .nil)) (.cons (row_of KX' [59, 60, 61] rfl (neq rfl) (.cons (pair_of KX' rfl (neq rfl)) (.cons (pair_of KX' rfl (neq rfl)) (.cons (pair_of KX' rfl (neq rfl)) .nil)))) (.cons (row_of KX' [63] rfl (neq rfl) (.cons (pair_of KX' rfl (neq rfl)) .nil)) (.cons (row_of KX' [65] rfl (neq rfl) (.cons (pair_of KX' rfl (neq rfl)) .nil)) (.cons (row_of KX' [67, 68, 69] rfl (neq rfl) (.cons (pair_of KX' rfl (neq rfl)) (.cons (pair_of KX' rfl (neq rfl)) (.cons (pair_of KX' rfl (neq rfl)) .nil)))) .nil))))))))))
  have h_join2 : ∃ f, (theWd prog w s mg mb).tick.mg "join" = some (.ref f) ∧ Fn (theWd prog w s mg mb).tick f ["split_command"] joinB joinS ∧ ∀ o fd, (theWd prog w s mg mb).tick.hb.get? f = some o → o.data = .func fd → fd.code = .ref (theWd prog w s mg mb).tick.c :=
    ⟨90, (hm _).trans (by rfl), (at_join w.params).fn KX' (neq rfl) (neq rfl), (at_join w.params).code KX'⟩
  have h_stat : ∃ o, (theWd prog w s mg mb).tick.hb.get? cStatics = some o ∧ cStatics ≠ (theWd prog w s mg mb).tick.P := by
    obtain ⟨o, _, _, e, _⟩ := hmc
    exact ⟨o, e, neq rfl⟩
  have hno : ∀ x : Str, x ∈ ([Str.ofString "len", Str.ofString "sum", Str.ofString "chr", Str.ofString "ord", Str.ofString "min", Str.ofString "max"] : List Str) → (theWd prog w s mg mb).tick.mg x = none := fun x hx => by
    simp only [List.mem_cons, List.not_mem_nil, or_false] at hx
    rcases hx with rfl | rfl | rfl | rfl | rfl | rfl <;> exact (hm _).trans (by rfl)
  refine ⟨?_, (at_law w.params).fn (B := theWd prog w s mg mb) KX (neq rfl) (neq rfl), (hm _).trans (by rfl)⟩
  exact { ok := ok, there := there, find := h_find, quote := h_quote, gr := rfl, gk := rfl, t0 := rfl, join := h_join2, tbl := h_tbl, enu := .boot ((hm _).trans (by rfl)) (by decide) (by rfl), bi := hno, ran := (hm _).trans (by rfl), ifmt := h_ifmt, fmode := h_fmode, esc0 := h_esc0, esc1 := h_esc1, esc2 := h_esc2, esc3 := h_esc3, esc4 := h_esc4, wby := h_wby, sign := h_sign, bare := h_bare, file := h_file, rank := h_rank, wid := h_wid, alik := h_alik, plac := h_plac, comm := h_comm }

/-- how the law leaves the world -/
def GoodEnd (s s' : Shared) : Prop := OldK s.heap s'.heap ∧ s'.os = s.os ∧ AllBare s'.gens

theorem finish {prog : Program} {w : World} {s : Shared} {mg mb : Str → Option Value} (T : HeadAt mg mb s.heap) (KX : (Mine02.hd.heap_39 w.params).In s.heap) {fa : Addr} (hmg : mg "law" = some (.ref fa)) (hg : s.gens = #[]) {a : Addr} {vs : List Value} {is : List Int}
    (hL : s.heap.IsList a vs.toArray) (hI : IntsAre vs is) (hlen : is.length ≤ 63) {QQ : Value → Shared → Prop} {E : Value → Shared → Prop} (hq : ∀ s', GoodEnd s s' → QQ (.bool true) s') : wpAny (model prog w) callerA (call (.ref fa) [.ref a]) QQ E s := by
  obtain ⟨TT, F, hl⟩ := top_is (prog := prog) T KX
  rw [hmg] at hl
  cases hl
  have hP : s.heap.get? 85 = some { cls := .none, data := .fields #[] } := T.tab.2.2
  have haP : a ≠ 85 := fun q => by
    obtain ⟨o, e, hc, _⟩ := hL
    rw [q, hP] at e; cases e; cases hc
  have X : XL (theWd prog w s mg mb).tick a is := ⟨⟨vs, hL, hI⟩, haP⟩
  have S0 : SB (theWd prog w s mg mb) [] [] s := ⟨fun a o e _ => e, fun a h => (by cases h), rfl, List.nodup_nil, fun k o a e => (by cases e), ⟨#[], by simpa [theWd] using T.tab⟩, by show AllBare s.gens; rw [hg]; exact AllBare.empty, rfl, Nat.zero_le _⟩
  refine law_call (n := 0) TT (Nat.zero_le _) F X hlen callerA E s [] [.ref a] QQ ⟨rfl, by decide, by decide⟩ S0 (.cons rfl .nil) fun v v' H' ρ' s' hv vv S' st' => ?_
  obtain rfl := hv
  obtain rfl := vv
  refine hq s' ⟨⟨fun b o e => ?_, fun b o e => ?_⟩, S'.os, S'.gens⟩
  · by_cases hb : b = 85
    · subst hb
      obtain ⟨more, hc, ht⟩ := S'.tab
      rw [hP] at e; cases e
      exact .inr (.inl ⟨T.tab.2.isCodeTable, rfl, #[], more, rfl, ht.2⟩)
    · exact .inl (S'.keep b o e (np hb))
  · by_cases hb : b = 85
    · subst hb; exact S'.tab.there
    · exact ⟨o, S'.keep b o e (np hb)⟩

theorem head_is {loose : List Str} {mean : ExcName → Option Value} {w : World} {mg mb : Str → Option Value} {h : Heap} (T : PyProof.Rows.Top Mine02.hd.view_39 loose mean mg mb h) (KX : (Mine02.hd.heap_39 w.params).In h) : HeadAt mg mb h := by
  obtain ⟨mc, hmc, _⟩ := T.nodigits
  refine ⟨T.g, T.b, T.nolimit, ⟨mc, hmc⟩, T.builtins, T.bmain, ?_⟩
  obtain ⟨d, hd, hn⟩ := List.any_eq_true.mp has_join
  obtain ⟨a, o, fd, c, P, h1, h2, h3, h4, h5, h6⟩ := T.tab d hd
  rw [beq_iff_eq.mp hn] at h1
  have hm := (mg_is (K := Mine02.hd.heap_39 w.params) KX T.g rfl rfl "join").trans (show _ = some (Value.ref 90) by rfl)
  rw [hm] at h1
  cases h1
  obtain ⟨o', fd', oc, vs, t, g1, g2, g3, g4, g5, g6, g7, g8, g9, g10, g11, g12⟩ := at_join w.params
  rw [KX _ _ g1] at h2; cases h2
  rw [g2] at h3; cases h3
  rw [g8] at h4; cases h4
  obtain ⟨⟨oc', vs', e1, e2, e3, e4⟩, e5⟩ := id h6
  have hk : (Mine02.hd.heap_39 w.params).lookup 89 = some _ := rfl
  rw [KX _ _ hk] at e1; cases e1
  cases e3
  have : P = 85 := by
    have e4' := Option.some.inj e4
    injection e4' with e4'
    exact e4'.symm
  subst this
  exact ⟨h5, h6⟩
end Mine

set_option maxRecDepth 100000 in
set_option maxHeartbeats 8000000 in
theorem PySem.Challenge.cw_op0104_02_holds : PySem.Challenge.rw_op0104_02.Holds := by
  refine Mine02.hd ?_
  intro w s₀ s₁ mg mb G Y fa o pm cd doc dV kV ho hd hcd hD hmg hg args vals as hpre hlay hrd hwl hlo
  have KX := kIn_of Y
  have T := Mine.head_is G.T KX
  clear Y ho hd hcd hD G
  wrow_args hpre hlay hrd hwl hlo
  rename_i hL _ _ _ hI _ hle _
  refine Mine.finish T KX hmg hg hL hI (by omega) fun s' g => ?_
  refine ⟨.inl ⟨_, _, [], rfl, fun _ => rfl, ReadsW.bool true, ?_, fun _ => ⟨List.nodup_nil, fun _ hm => (nomatch hm)⟩⟩, g.1, g.2.1, g.2.2⟩
  first | rfl | wrow_post

end
