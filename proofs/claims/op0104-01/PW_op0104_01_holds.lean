import PyProof.Rows.All
import Wide.All
import OpenK.AllK
import Wide.FinOn
import Lean
import PySem.Challenge.RW_op0104_01

set_option Elab.async false
set_option linter.all false
section
open PySem PySem.W PySem.Calls PyProof.Rows
set_option maxRecDepth 100000
namespace Mine

/-- a value, as the evaluator sees it -/
inductive V where
  | none
  | bool (b : Bool)
  | int (i : Int)
  | str (x : Str)
  | ref (k : Nat)
  | ext (a : Addr)

/-- an object of the ledger -/
inductive O where
  | list (vs : List V)
  | dict (D : List (PyData × PyData))
  | range (a b : Int)

structure Wd where
  prog : Program
  w : World
  hb : Heap
  os : OsState
  mg : Str → Option Value
  mb : Str → Option Value
  c : Addr
  P : Addr
  gr : Bool
  t0 : Nat
  gk : Array GenState → Drawn → Prop
  ps0 : Array Value

abbrev Wd.M (B : Wd) : Model := model B.prog B.w

/-- a place that stays: any, but the table of the code, if that may grow -/
def Wd.NP (B : Wd) (a : Addr) : Prop := B.gr = true → a ≠ B.P
theorem np {B : Wd} {a : Addr} (h : a ≠ B.P) : B.NP a := fun _ => h

/-- the table of the code that holds the one generator expression -/
def Wd.Tab (B : Wd) (h : Heap) : Prop := ∃ more, h.IsCode B.c B.P (B.ps0 ++ more) ∧ h.TableAt B.c B.P (B.ps0 ++ more)

structure Wd.Ok (B : Wd) : Prop where
  g : B.hb.Ns mainGlobals B.mg
  b : B.hb.Ns builtinsNs B.mb
  nolimit : B.hb.NoLimit
  builtins : ∀ x : Str, x ≠ "__name__" → B.mb x = bootBuiltins x
  bmain : ∃ bm ob, B.mg "__builtins__" = some (.ref bm) ∧ bm ≠ builtinsNs ∧ B.hb.get? bm = some ob ∧ ob.cls = .type "module" ∧ ob.dict = some builtinsNs ∧ ob.data = .plain ∧ bm ≠ B.P
  pg : mainGlobals ≠ B.P
  pb : builtinsNs ≠ B.P
  ps : cStatics ≠ B.P
  pc : B.c ≠ B.P

def VR (ρ : List Addr) : V → Value → Prop
  | .none, v => v = .none
  | .bool b, v => v = .bool b
  | .int i, v => ∃ t, v = .int i t
  | .str x, v => ∃ t, v = .str x t
  | .ref k, v => ∃ a, ρ[k]? = some a ∧ v = .ref a
  | .ext a, v => v = .ref a

inductive VRs (ρ : List Addr) : List V → List Value → Prop
  | nil : VRs ρ [] []
  | cons {v v' vs vs'} : VR ρ v v' → VRs ρ vs vs' → VRs ρ (v :: vs) (v' :: vs')

theorem getElem?_app {α : Type} {l m : List α} {k : Nat} {a : α} (h : l[k]? = some a) : (l ++ m)[k]? = some a := by
  rw [List.getElem?_append_left (List.getElem?_eq_some_iff.mp h).1]; exact h

theorem VR.mono {ρ more : List Addr} : ∀ {v v'}, VR ρ v v' → VR (ρ ++ more) v v'
  | .none, _, h => h
  | .bool _, _, h => h
  | .int _, _, h => h
  | .str _, _, h => h
  | .ref _, _, ⟨a, h, e⟩ => ⟨a, getElem?_app h, e⟩
  | .ext _, _, h => h

theorem VRs.mono {ρ more : List Addr} {vs vs'} (h : VRs ρ vs vs') : VRs (ρ ++ more) vs vs' := by
  induction h with
  | nil => exact .nil
  | cons h _ ih => exact .cons h.mono ih

theorem VRs.length {ρ : List Addr} {vs vs'} (h : VRs ρ vs vs') : vs.length = vs'.length := by
  induction h with
  | nil => rfl
  | cons _ _ ih => simp [ih]

theorem VRs.get {ρ : List Addr} {vs vs'} (h : VRs ρ vs vs') : ∀ {k : Nat} {v : V}, vs[k]? = some v → ∃ v', vs'[k]? = some v' ∧ VR ρ v v' := by
  induction h with
  | nil => intro k v e; simp at e
  | cons h _ ih =>
    intro k v e
    cases k with
    | zero => simp at e; subst e; exact ⟨_, rfl, h⟩
    | succ k => simpa using ih (by simpa using e)

theorem VRs.append {ρ : List Addr} {vs vs' ws ws'} (h : VRs ρ vs vs') (k : VRs ρ ws ws') : VRs ρ (vs ++ ws) (vs' ++ ws') := by
  induction h with
  | nil => exact k
  | cons h _ ih => exact .cons h ih

theorem VRs.take {ρ : List Addr} {vs vs'} (h : VRs ρ vs vs') : ∀ n, VRs ρ (vs.take n) (vs'.take n) := by
  induction h with
  | nil => intro n; simp; exact .nil
  | cons h _ ih =>
    intro n
    cases n with
    | zero => exact .nil
    | succ n => exact .cons h (ih n)

theorem VRs.drop {ρ : List Addr} {vs vs'} (h : VRs ρ vs vs') : ∀ n, VRs ρ (vs.drop n) (vs'.drop n) := by
  induction h with
  | nil => intro n; simp; exact .nil
  | cons h k ih =>
    intro n
    cases n with
    | zero => exact .cons h k
    | succ n => exact ih n

theorem VRs.set {ρ : List Addr} {vs vs'} (h : VRs ρ vs vs') {v v'} (hv : VR ρ v v') : ∀ n, VRs ρ (vs.set n v) (vs'.set n v') := by
  induction h with
  | nil => intro n; simp; exact .nil
  | cons h k ih =>
    intro n
    cases n with
    | zero => exact .cons hv k
    | succ n => exact .cons h (ih n)

theorem VRs.erase {ρ : List Addr} {vs vs'} (h : VRs ρ vs vs') : ∀ n, VRs ρ (vs.eraseIdx n) (vs'.eraseIdx n) := by
  induction h with
  | nil => intro n; simp; exact .nil
  | cons h k ih =>
    intro n
    cases n with
    | zero => exact k
    | succ n => exact .cons h (ih n)

theorem VRs.one {ρ : List Addr} {v v'} (h : VR ρ v v') : VRs ρ [v] [v'] := .cons h .nil

def OR (B : Wd) (ρ : List Addr) (h : Heap) (a : Addr) : O → Prop
  | .list vs => ∃ vs' n, h.get? a = some (listOf vs'.toArray n) ∧ VRs ρ vs vs'
  | .dict D => StrTab B.prog B.w h a D
  | .range x y => ∃ t u v, IsRange h a x y 1 t u v

theorem OR.at {B : Wd} {ρ more : List Addr} {h h' : Heap} {a : Addr} {o : O} (x : OR B ρ h a o) (e : ∀ ob, h.get? a = some ob → h'.get? a = some ob) : OR B (ρ ++ more) h' a o := by
  cases o with
  | list vs => obtain ⟨vs', n, g, r⟩ := x; exact ⟨vs', n, e _ g, r.mono⟩
  | dict D => obtain ⟨lo, kvs, ⟨o, es, ep, ho, r⟩, hf⟩ := x; exact ⟨lo, kvs, ⟨o, es, ep, e _ ho, r⟩, hf⟩
  | range x y => obtain ⟨t, u, v, g⟩ := x; exact ⟨t, u, v, e _ g⟩

theorem OR.there {B : Wd} {ρ : List Addr} {h : Heap} {a : Addr} {o : O} (x : OR B ρ h a o) : ∃ ob, h.get? a = some ob := by
  cases o with
  | list vs => obtain ⟨vs', n, g, r⟩ := x; exact ⟨_, g⟩
  | dict D => obtain ⟨lo, kvs, ⟨o, es, ep, ho, r⟩, hf⟩ := x; exact ⟨_, ho⟩
  | range _ _ => obtain ⟨t, u, v, g⟩ := x; exact ⟨_, g⟩

structure SB (B : Wd) (ρ : List Addr) (H : List O) (s : Shared) : Prop where
  keep : ∀ a o, B.hb.get? a = some o → B.NP a → s.heap.get? a = some o
  fresh : ∀ a ∈ ρ, B.hb.get? a = Option.none
  len : ρ.length = H.length
  nodup : ρ.Nodup
  objs : ∀ (k : Nat) (o : O) (a : Addr), H[k]? = some o → ρ[k]? = some a → OR B ρ s.heap a o
  tab : B.Tab s.heap
  gens : B.gk s.gens s.drawn
  os : s.os = B.os
  toks : B.t0 ≤ s.toks

/-- what a step leaves as it was -/
structure Step (B : Wd) (ρ ρ' : List Addr) (s s' : Shared) : Prop where
  ext : ∃ more, ρ' = ρ ++ more ∧ ∀ a ∈ more, s.heap.get? a = Option.none
  keep : ∀ a o, s.heap.get? a = some o → a ∉ ρ → B.NP a → s'.heap.get? a = some o

theorem SB.at {B : Wd} {ρ H s} (S : SB B ρ H s) {k : Nat} {o : O} (h : H[k]? = some o) : ∃ a, ρ[k]? = some a ∧ OR B ρ s.heap a o := by
  have hk : k < ρ.length := by rw [S.len]; exact (List.getElem?_eq_some_iff.mp h).1
  exact ⟨ρ[k], List.getElem?_eq_getElem hk, S.objs k o _ h (List.getElem?_eq_getElem hk)⟩

theorem SB.mem {B : Wd} {ρ H s} (S : SB B ρ H s) {a : Addr} (h : a ∈ ρ) : ∃ ob, s.heap.get? a = some ob := by
  obtain ⟨k, hk, e⟩ := List.getElem_of_mem h
  have hk' : k < H.length := by rw [← S.len]; exact hk
  exact (S.objs k _ a (List.getElem?_eq_getElem hk') (by rw [← e]; exact List.getElem?_eq_getElem hk)).there

theorem SB.notP {B : Wd} {ρ H s} (S : SB B ρ H s) (hP : ∃ o, B.hb.get? B.P = some o) : B.P ∉ ρ := fun h => by
  obtain ⟨o, e⟩ := hP
  rw [S.fresh _ h] at e; cases e

theorem Wd.Tab.there {B : Wd} {h : Heap} (x : B.Tab h) : ∃ o, h.get? B.P = some o := by
  obtain ⟨ps, _, t⟩ := x; exact ⟨_, t.2⟩
theorem Wd.Tab.keeps {B : Wd} {h h' : Heap} (x : B.Tab h) (hk : ∀ b o, h.get? b = some o → h'.get? b = some o) : B.Tab h' := by
  obtain ⟨ps, a, b⟩ := x; exact ⟨ps, a.keeps hk, b.keeps hk⟩

theorem Step.refl {B : Wd} {ρ : List Addr} {s : Shared} : Step B ρ ρ s s := ⟨⟨[], by simp, by simp⟩, fun _ _ e _ _ => e⟩

theorem Step.mono {B : Wd} {ρ ρ' : List Addr} {s s' : Shared} (x : Step B ρ ρ' s s') {v v'} (h : VR ρ v v') : VR ρ' v v' := by
  obtain ⟨⟨m, rfl, _⟩, _⟩ := x; exact h.mono
theorem Step.monos {B : Wd} {ρ ρ' : List Addr} {s s' : Shared} (x : Step B ρ ρ' s s') {v v'} (h : VRs ρ v v') : VRs ρ' v v' := by
  obtain ⟨⟨m, rfl, _⟩, _⟩ := x; exact h.mono

theorem Step.trans {B : Wd} {ρ ρ' ρ'' : List Addr} {H' : List O} {s s' s'' : Shared} (x : Step B ρ ρ' s s') (S : SB B ρ' H' s') (y : Step B ρ' ρ'' s' s'') : Step B ρ ρ'' s s'' := by
  obtain ⟨⟨m, rfl, hm⟩, k⟩ := x
  obtain ⟨⟨m', rfl, hm'⟩, k'⟩ := y
  refine ⟨⟨m ++ m', by simp, fun a ha => ?_⟩, fun a o e na nP => ?_⟩
  · rcases List.mem_append.mp ha with h | h
    · exact hm a h
    · cases q : s.heap.get? a with
      | none => rfl
      | some o =>
        exfalso
        have hn := hm' a h
        by_cases hr : a ∈ ρ
        · obtain ⟨ob, e⟩ := S.mem (List.mem_append_left _ hr); rw [hn] at e; cases e
        · by_cases hP : a = B.P
          · subst hP; obtain ⟨ob, e⟩ := S.tab.there; rw [hn] at e; cases e
          · rw [k a o q hr (np hP)] at hn; cases hn
  · refine k' a o (k a o e na nP) (fun h => ?_) nP
    rcases List.mem_append.mp h with h | h
    · exact na h
    · rw [hm a h] at e; cases e

/-- a step that keeps every object -/
theorem SB.keeps {B : Wd} {ρ H s} (S : SB B ρ H s) {h' : Heap} {tk : Nat} (hk : ∀ b o, s.heap.get? b = some o → h'.get? b = some o) (ht : B.t0 ≤ tk) :
    SB B ρ H { s with heap := h', toks := tk } :=
  ⟨fun a o e n => hk _ _ (S.keep a o e n), S.fresh, S.len, S.nodup, fun k o a e e' => by have := (S.objs k o a e e').at (more := []) (h' := h') fun ob e => hk _ _ e; simpa using this, S.tab.keeps hk, S.gens, S.os, ht⟩
theorem Step.keeps {B : Wd} {ρ : List Addr} {s : Shared} {h' : Heap} {tk : Nat} (hk : ∀ b o, s.heap.get? b = some o → h'.get? b = some o) : Step B ρ ρ s { s with heap := h', toks := tk } :=
  ⟨⟨[], by simp, by simp⟩, fun a o e _ _ => hk a o e⟩

/-- a step that keeps every object, and one object more for the ledger -/
theorem SB.more {B : Wd} {ρ H s} (S : SB B ρ H s) {h' : Heap} {tk : Nat} {a : Addr} {o : O} (hk : ∀ b o, s.heap.get? b = some o → h'.get? b = some o) (ht : B.t0 ≤ tk)
    (hn : s.heap.get? a = Option.none) (ho : OR B (ρ ++ [a]) h' a o) : SB B (ρ ++ [a]) (H ++ [o]) { s with heap := h', toks := tk } := by
  have na : a ∉ ρ := fun h => by obtain ⟨ob, e⟩ := S.mem h; rw [hn] at e; cases e
  refine ⟨fun a o e n => hk _ _ (S.keep a o e n), fun b hb => ?_, by simp [S.len], ?_, fun k o' b e e' => ?_, S.tab.keeps hk, S.gens, S.os, ht⟩
  · rcases List.mem_append.mp hb with h | h
    · exact S.fresh b h
    · rw [List.mem_singleton.mp h]
      cases q : B.hb.get? a with
      | none => rfl
      | some o' =>
        by_cases hP : a = B.P
        · subst hP; obtain ⟨ob, e⟩ := S.tab.there; rw [hn] at e; cases e
        · rw [S.keep a o' q (np hP)] at hn; cases hn
  · rw [List.nodup_append]
    refine ⟨S.nodup, by simp, fun x hx y hy => ?_⟩
    rw [List.mem_singleton.mp hy]; rintro rfl; exact na hx
  · by_cases hlt : k < H.length
    · rw [List.getElem?_append_left hlt] at e
      rw [List.getElem?_append_left (by rw [S.len]; exact hlt)] at e'
      exact (S.objs k o' b e e').at fun ob e => hk _ _ e
    · have hk1 : k < (H ++ [o]).length := (List.getElem?_eq_some_iff.mp e).1
      have hk2 : k = H.length := by simp at hk1; omega
      subst hk2
      rw [List.getElem?_append_right (Nat.le_refl _)] at e
      rw [List.getElem?_append_right (by rw [S.len]; exact Nat.le_refl _), S.len] at e'
      simp at e e'
      subst e e'
      exact ho
theorem Step.more {B : Wd} {ρ : List Addr} {s : Shared} {h' : Heap} {tk : Nat} {a : Addr} (hk : ∀ b o, s.heap.get? b = some o → h'.get? b = some o) (hn : s.heap.get? a = Option.none) : Step B ρ (ρ ++ [a]) s { s with heap := h', toks := tk } :=
  ⟨⟨[a], rfl, fun b hb => by rw [List.mem_singleton.mp hb]; exact hn⟩, fun a o e _ _ => hk a o e⟩

theorem nodup_inj {l : List Addr} (hn : l.Nodup) {i j : Nat} (hi : i < l.length) (hj : j < l.length) (e : l[i] = l[j]) : i = j := by
  have h := List.pairwise_iff_getElem.mp hn
  rcases Nat.lt_trichotomy i j with x | x | x
  · exact absurd e (h i j hi hj x)
  · exact x
  · exact absurd e.symm (h j i hj hi x)
/-- one object of the ledger is changed -/
theorem SB.set {B : Wd} {ρ H s} (S : SB B ρ H s) (hP : B.P ∉ ρ) (hc : B.c ∉ ρ) {h' : Heap} {tk : Nat} {k : Nat} {a : Addr} {o : O} (hka : ρ[k]? = some a) (hk : ∀ b o, b ≠ a → s.heap.get? b = some o → h'.get? b = some o) (ht : B.t0 ≤ tk)
    (ho : OR B ρ h' a o) : SB B ρ (H.set k o) { s with heap := h', toks := tk } := by
  have ha : a ∈ ρ := List.mem_of_getElem? hka
  have hkl : k < ρ.length := (List.getElem?_eq_some_iff.mp hka).1
  refine ⟨fun b ob e n => hk _ _ (fun q => ?_) (S.keep b ob e n), S.fresh, by simp [S.len], S.nodup, fun j o' b e e' => ?_, ?_, S.gens, S.os, ht⟩
  · subst q; rw [S.fresh _ ha] at e; cases e
  · by_cases hj : j = k
    · subst hj
      rw [List.getElem?_set_self (by rw [← S.len]; exact hkl)] at e
      rw [hka] at e'
      cases e; cases e'
      exact ho
    · rw [List.getElem?_set_ne (Ne.symm hj)] at e
      have hba : b ≠ a := fun q => by
        subst q
        obtain ⟨h1, h1'⟩ := List.getElem?_eq_some_iff.mp e'
        obtain ⟨h2, h2'⟩ := List.getElem?_eq_some_iff.mp hka
        exact hj (nodup_inj S.nodup h1 h2 (h1'.trans h2'.symm))
      have := (S.objs j o' b e e').at (more := []) (h' := h') fun ob e => hk _ _ hba e
      simpa using this
  · obtain ⟨ps, x, y⟩ := S.tab
    have n1 : B.c ≠ a := fun q => hc (q ▸ ha)
    have n2 : B.P ≠ a := fun q => hP (q ▸ ha)
    exact ⟨ps, x.extBut (fun b o hb e => hk b o hb e) n1 n2, y.extBut (fun b o hb e => hk b o hb e) n1 n2⟩
theorem Step.set {B : Wd} {ρ : List Addr} {s : Shared} {h' : Heap} {tk : Nat} {a : Addr} (ha : a ∈ ρ) (hk : ∀ b o, b ≠ a → s.heap.get? b = some o → h'.get? b = some o) : Step B ρ ρ s { s with heap := h', toks := tk } :=
  ⟨⟨[], by simp, by simp⟩, fun b o e nb _ => hk b o (fun q => nb (q ▸ ha)) e⟩

def O.Closed (n : Nat) : O → Prop
  | .list vs => ∀ k, V.ref k ∈ vs → k < n
  | .dict _ => True
  | .range _ _ => True

theorem VRs.closed {ρ : List Addr} {vs vs'} (h : VRs ρ vs vs') : ∀ k, V.ref k ∈ vs → k < ρ.length := by
  induction h with
  | nil => intro k hk; cases hk
  | cons h _ ih =>
    intro k hk
    rcases List.mem_cons.mp hk with e | e
    · subst e; obtain ⟨a, e, _⟩ := h; exact (List.getElem?_eq_some_iff.mp e).1
    · exact ih k e
theorem OR.closed {B : Wd} {ρ : List Addr} {h : Heap} {a : Addr} {o : O} (x : OR B ρ h a o) : o.Closed ρ.length := by
  cases o with
  | list vs => obtain ⟨vs', n, g, r⟩ := x; exact r.closed
  | dict es => trivial
  | range _ _ => trivial
theorem SB.closed {B : Wd} {ρ H s} (S : SB B ρ H s) : ∀ o ∈ H, o.Closed H.length := by
  intro o ho
  obtain ⟨k, hk, e⟩ := List.getElem_of_mem ho
  obtain ⟨a, ha, x⟩ := S.at (k := k) (o := o) (by rw [← e]; exact List.getElem?_eq_getElem hk)
  rw [← S.len]; exact x.closed

theorem VR.back {ρ more : List Addr} : ∀ {v v'}, VR (ρ ++ more) v v' → (∀ k, v = .ref k → k < ρ.length) → VR ρ v v'
  | .none, _, h, _ => h
  | .bool _, _, h, _ => h
  | .int _, _, h, _ => h
  | .str _, _, h, _ => h
  | .ref k, _, ⟨a, h, e⟩, hc => ⟨a, by rw [List.getElem?_append_left (hc k rfl)] at h; exact h, e⟩
  | .ext _, _, h, _ => h
theorem VRs.back {ρ more : List Addr} {vs vs'} (h : VRs (ρ ++ more) vs vs') (hc : ∀ k, V.ref k ∈ vs → k < ρ.length) : VRs ρ vs vs' := by
  induction h with
  | nil => exact .nil
  | cons h _ ih => exact .cons (h.back fun k e => hc k (by rw [e]; exact .head _)) (ih fun k hk => hc k (.tail _ hk))
theorem OR.back {B : Wd} {ρ more : List Addr} {h : Heap} {a : Addr} {o : O} (x : OR B (ρ ++ more) h a o) (hc : o.Closed ρ.length) : OR B ρ h a o := by
  cases o with
  | list vs => obtain ⟨vs', n, g, r⟩ := x; exact ⟨vs', n, g, r.back hc⟩
  | dict es => exact x
  | range _ _ => exact x

/-- the last objects of the ledger are forgotten -/
theorem SB.drop {B : Wd} {ρ more : List Addr} {H G : List O} {s} (S : SB B (ρ ++ more) (H ++ G) s) (hl : ρ.length = H.length) (hc : ∀ o ∈ H, o.Closed H.length) : SB B ρ H s :=
  ⟨S.keep, fun a ha => S.fresh a (List.mem_append_left _ ha), hl, (List.nodup_append.mp S.nodup).1, fun k o a e e' =>
    (S.objs k o a (getElem?_app e) (getElem?_app e')).back (by rw [hl]; exact hc o (List.mem_of_getElem? e)), S.tab, S.gens, S.os, S.toks⟩
theorem Step.drop {B : Wd} {ρ ρ₁ more : List Addr} {s s' : Shared} (x : Step B ρ ((ρ ++ ρ₁) ++ more) s s') : Step B ρ (ρ ++ ρ₁) s s' := by
  obtain ⟨⟨m, e, hm⟩, k⟩ := x
  rw [List.append_assoc] at e
  have e := List.append_cancel_left e
  subst e
  exact ⟨⟨ρ₁, rfl, fun a ha => hm a (List.mem_append_left _ ha)⟩, k⟩

structure AOk (n : Nat) (A : Around) : Prop where
  h : A.handled = Option.none
  d : A.depth + n < 900
  u : A.units + 20 * n < 9000

theorem AOk.le {n m : Nat} {A : Around} (x : AOk n A) (h : m ≤ n) : AOk m A := ⟨x.h, by have := x.d; omega, by have := x.u; omega⟩
theorem AOk.room {n : Nat} {A : Around} (x : AOk n A) : A.depth < recursionLimit := by have := x.d; simp only [recursionLimit]; omega
theorem AOk.units {n : Nat} {A : Around} (x : AOk n A) : A.units < cLine := by have := x.u; rw [cLine_is]; omega
theorem AOk.deeper {n : Nat} {A : Around} {env : Env} (x : AOk (n + 1) A) : AOk n (A.deeper env) := ⟨x.h, by have := x.d; show A.depth + 1 + n < 900; omega, by have := x.u; show A.units + 3 + 20 * n < 9000; omega⟩

end Mine

end
section
open PySem PySem.W PySem.Calls PyProof.Rows
set_option maxRecDepth 100000
namespace Mine

abbrev Loc := Str → Option V

structure LocR (B : Wd) (env : Env) (loc : Loc) (ρ : List Addr) (h : Heap) : Prop where
  kind : env.scope.kind = .function
  glob : env.globals = mainGlobals
  bu : env.builtins = builtinsNs
  nL : env.locals ∉ ρ
  nP : env.locals ≠ B.P
  nB : B.hb.get? env.locals = none
  cells : ∀ x c, env.cells.lookup x = some c → c ∉ ρ ∧ c ≠ B.P ∧ c ≠ env.locals ∧ B.hb.get? c = none ∧ ∃ v, h.IsCell c v
  apart : ∀ x y c, env.cells.lookup x = some c → env.cells.lookup y = some c → x = y
  ns : ∃ m, h.Ns env.locals m ∧ ∀ x v, loc x = some v →
    (env.kindOf x = some .local ∧ ∃ v', m x = some v' ∧ VR ρ v v') ∨
    ((env.kindOf x = some .cell ∨ env.kindOf x = some .free) ∧ ∃ c v', env.cells.lookup x = some c ∧ h.IsCell c (some v') ∧ VR ρ v v')

theorem LocR.step {B : Wd} {env loc ρ ρ'} {s s' : Shared} (L : LocR B env loc ρ s.heap) (x : Step B ρ ρ' s s') : LocR B env loc ρ' s'.heap := by
  obtain ⟨⟨more, rfl, hm⟩, k⟩ := x
  obtain ⟨m, hn, hv⟩ := L.ns
  have hLo : ∃ o, s.heap.get? env.locals = some o := let ⟨o, _, _, e, _⟩ := hn; ⟨o, e⟩
  have new : ∀ a o, s.heap.get? a = some o → a ∉ ρ → a ∉ ρ ++ more := fun a o e n h => by
    rcases List.mem_append.mp h with h | h
    · exact n h
    · rw [hm a h] at e; cases e
  have cell : ∀ x c v, env.cells.lookup x = some c → s.heap.IsCell c v → s'.heap.IsCell c v := fun x c v e ⟨o, ho, hd⟩ =>
    ⟨o, k c o ho (L.cells x c e).1 (np (L.cells x c e).2.1), hd⟩
  refine ⟨L.kind, L.glob, L.bu, (let ⟨o, e⟩ := hLo; new _ o e L.nL), L.nP, L.nB, fun x c e => ?_, L.apart, m, hn.at' (fun o e => k _ o e L.nL (np L.nP)), fun x v e => ?_⟩
  · obtain ⟨h1, h2, h3, h4, v, hc⟩ := L.cells x c e
    obtain ⟨o, ho, hd⟩ := id hc
    exact ⟨new c o ho h1, h2, h3, h4, v, cell x c v e hc⟩
  · rcases hv x v e with ⟨a, v', b, c⟩ | ⟨a, cc, v', b, c, d⟩
    · exact .inl ⟨a, v', b, c.mono⟩
    · exact .inr ⟨a, cc, v', b, cell _ _ _ b c, d.mono⟩

section
variable (B : Wd) (n : Nat)

/-- an expression's weakest precondition, over the ledger -/
def EW (env : Env) (loc : Loc) (e : Expr) (H : List O) (Q : V → List O → Prop) : Prop :=
  ∀ (A : Around) (E : Value → Shared → Prop) (s : Shared) (ρ : List Addr) (QQ : Value → Shared → Prop), AOk n A → SB B ρ H s → LocR B env loc ρ s.heap →
    (∀ v v' H' ρ' s', Q v H' → VR ρ' v v' → SB B ρ' H' s' → Step B ρ ρ' s s' → QQ v' s') → wpAny B.M A (eval e env) QQ E s

def EWs (env : Env) (loc : Loc) (es : List Expr) (H : List O) (Q : List V → List O → Prop) : Prop :=
  ∀ (A : Around) (E : Value → Shared → Prop) (s : Shared) (ρ : List Addr) (QQ : List Value → Shared → Prop) (pos : Pos), AOk n A → SB B ρ H s → LocR B env loc ρ s.heap →
    (∀ v v' H' ρ' s', Q v H' → VRs ρ' v v' → SB B ρ' H' s' → Step B ρ ρ' s s' → QQ v' s') → wpAny B.M A (spliced (backTo pos (starEach es env))) QQ E s

def TW (env : Env) (loc : Loc) (e : Expr) (H : List O) (Q : Bool → List O → Prop) : Prop :=
  ∀ (A : Around) (E : Value → Shared → Prop) (s : Shared) (ρ : List Addr) (QQ : Bool → Shared → Prop), AOk n A → SB B ρ H s → LocR B env loc ρ s.heap →
    (∀ b H' ρ' s', Q b H' → SB B ρ' H' s' → Step B ρ ρ' s s' → QQ b s') → wpAny B.M A (isTrue e env (eval e env)) QQ E s

/-- a primitive of two values -/
def PW2 (t : Value → Value → Sem Value) (a b : V) (H : List O) (Q : V → List O → Prop) : Prop :=
  ∀ (A : Around) (E : Value → Shared → Prop) (s : Shared) (ρ : List Addr) (a' b' : Value) (QQ : Value → Shared → Prop), AOk n A → SB B ρ H s → VR ρ a a' → VR ρ b b' →
    (∀ v v' H' ρ' s', Q v H' → VR ρ' v v' → SB B ρ' H' s' → Step B ρ ρ' s s' → QQ v' s') → wpAny B.M A (t a' b') QQ E s
/-- the truth of a value -/
def TV (v : V) (H : List O) (Q : Bool → List O → Prop) : Prop :=
  ∀ (A : Around) (E : Value → Shared → Prop) (s : Shared) (ρ : List Addr) (v' : Value) (QQ : Bool → Shared → Prop), AOk n A → SB B ρ H s → VR ρ v v' →
    (∀ b H' ρ' s', Q b H' → SB B ρ' H' s' → Step B ρ ρ' s s' → QQ b s') → wpAny B.M A (truthy v') QQ E s
/-- a call -/
def CW (f : Value) (vs : List V) (H : List O) (Q : V → List O → Prop) : Prop :=
  ∀ (A : Around) (E : Value → Shared → Prop) (s : Shared) (ρ : List Addr) (vs' : List Value) (QQ : Value → Shared → Prop), AOk n A → SB B ρ H s → VRs ρ vs vs' →
    (∀ v v' H' ρ' s', Q v H' → VR ρ' v v' → SB B ρ' H' s' → Step B ρ ρ' s s' → QQ v' s') → wpAny B.M A (call f vs') QQ E s
end

section
variable {B : Wd} {n : Nat} {env : Env} {loc : Loc} {H : List O} {Q : V → List O → Prop}

theorem EW.mono {e : Expr} {Q' : V → List O → Prop} (h : EW B n env loc e H Q) (hq : ∀ v H', Q v H' → Q' v H') : EW B n env loc e H Q' :=
  fun A E s ρ QQ hA S L k => h A E s ρ QQ hA S L fun v v' H' ρ' s' q => k v v' H' ρ' s' (hq _ _ q)
theorem CW.mono {f : Value} {vs : List V} {Q' : V → List O → Prop} (h : CW B n f vs H Q) (hq : ∀ v H', Q v H' → Q' v H') : CW B n f vs H Q' :=
  fun A E s ρ vs' QQ hA S L k => h A E s ρ vs' QQ hA S L fun v v' H' ρ' s' q => k v v' H' ρ' s' (hq _ _ q)
theorem CW.lift {m : Nat} {f : Value} {vs : List V} (h : CW B m f vs H Q) (hm : m ≤ n) : CW B n f vs H Q :=
  fun A E s ρ vs' QQ hA => h A E s ρ vs' QQ (hA.le hm)

theorem SB.tok {ρ H s} (S : SB B ρ H s) {tk : Nat} (ht : B.t0 ≤ tk) : SB B ρ H { s with toks := tk } := S.keeps (h' := s.heap) (fun _ _ e => e) ht
theorem Step.tok {ρ : List Addr} {s : Shared} {tk : Nat} : Step B ρ ρ s { s with toks := tk } := Step.keeps (h' := s.heap) fun _ _ e => e

/-! leaves -/
theorem EW.cint {i : Int} {k pos} (q : Q (.int i) H) : EW B n env loc (.Constant (.int i) k pos) H Q := fun A E s ρ QQ hA S L kk =>
  wpAny_Constant_int (kk _ _ _ ρ _ q ⟨s.toks, rfl⟩ (S.tok (by have := S.toks; omega)) Step.tok)
theorem EW.cstr {x : Str} {k pos} (q : Q (.str x) H) : EW B n env loc (.Constant (.str x) k pos) H Q := fun A E s ρ QQ hA S L kk =>
  Constant_str (kk _ _ _ ρ _ q ⟨s.toks, rfl⟩ (S.tok (by have := S.toks; omega)) Step.tok)
theorem EW.cbool {b : Bool} {k pos} (q : Q (.bool b) H) : EW B n env loc (.Constant (.bool b) k pos) H Q := fun A E s ρ QQ hA S L kk =>
  wpAny_pure (kk _ _ _ ρ _ q rfl S Step.refl)
theorem EW.cnone {k pos} (q : Q .none H) : EW B n env loc (.Constant .none k pos) H Q := fun A E s ρ QQ hA S L kk =>
  wpAny_pure (kk _ _ _ ρ _ q rfl S Step.refl)

theorem EW.name {x : Str} {pos : Pos} {v : V} (hv : loc x = some v) (q : Q v H) (hd : (x == ("__debug__" : Str)) = false := by decide) (hc : (x == ("__classdict__" : Str)) = false := by decide) :
    EW B n env loc (.Name x pos) H Q := fun A E s ρ QQ hA S L kk => by
  obtain ⟨m, hn, hl⟩ := L.ns
  rcases hl x v hv with ⟨a, v', b, c⟩ | ⟨a, cc, v', b, c, d⟩
  · exact wpAny_Name (wpAny_loadName_local L.kind a hn b (kk _ _ _ ρ _ q c S Step.refl)) hd
  · rcases a with a | a
    · exact wpAny_Name (wpAny_loadName_cell L.kind a b c (kk _ _ _ ρ _ q d S Step.refl)) hd
    · exact wpAny_Name (wpAny_loadName_free L.kind a b c (kk _ _ _ ρ _ q d S Step.refl) hc) hd

theorem SB.ns {ρ H s} (S : SB B ρ H s) {a : Addr} {m} (h : B.hb.Ns a m) (hP : a ≠ B.P) : s.heap.Ns a m := h.at' fun o e => S.keep a o e (np hP)

theorem wpAny_global {A : Around} {E : Value → Shared → Prop} {s : Shared} {ρ : List Addr} {x : Str} {pos : Pos} {v : Value} {QQ : Value → Shared → Prop} (W : B.Ok) (S : SB B ρ H s) (L : LocR B env loc ρ s.heap)
    (hk : env.kindOf x = some .globalImplicit) (hv : B.mg x = some v) (h : QQ v s) (hd : (x == ("__debug__" : Str)) = false) : wpAny B.M A (eval (.Name x pos) env) QQ E s :=
  Name_function_global L.kind hk (loadGlobal_global (by rw [L.glob]; exact S.ns W.g W.pg) hv h) hd
theorem wpAny_builtin {A : Around} {E : Value → Shared → Prop} {s : Shared} {ρ : List Addr} {x : Str} {pos : Pos} {v : Value} {QQ : Value → Shared → Prop} (W : B.Ok) (S : SB B ρ H s) (L : LocR B env loc ρ s.heap)
    (hk : env.kindOf x = some .globalImplicit) (hg : B.mg x = none) (hn : x ≠ "__name__") (hv : bootBuiltins x = some v) (h : QQ v s) (hd : (x == ("__debug__" : Str)) = false) : wpAny B.M A (eval (.Name x pos) env) QQ E s :=
  Name_function_global L.kind hk (loadGlobal_builtin (by rw [L.glob]; exact S.ns W.g W.pg) hg (by rw [L.bu]; exact S.ns W.b W.pb) ((W.builtins x hn).trans hv) h) hd

/-- what a name of the top stands for -/
inductive Glob (B : Wd) (x : Str) : Value → Prop
  | top {v} : B.mg x = some v → Glob B x v
  | boot {v} : B.mg x = none → x ≠ "__name__" → bootBuiltins x = some v → Glob B x v

theorem wpAny_glob {A : Around} {E : Value → Shared → Prop} {s : Shared} {ρ : List Addr} {x : Str} {pos : Pos} {v : Value} {QQ : Value → Shared → Prop} (W : B.Ok) (S : SB B ρ H s) (L : LocR B env loc ρ s.heap)
    (hk : env.kindOf x = some .globalImplicit) (hv : Glob B x v) (h : QQ v s) (hd : (x == ("__debug__" : Str)) = false) : wpAny B.M A (eval (.Name x pos) env) QQ E s := by
  cases hv with
  | top e => exact wpAny_global W S L hk e h hd
  | boot e1 e2 e3 => exact wpAny_builtin W S L hk e1 e2 e3 h hd

/-! composites -/
theorem EW.binop {l r : Expr} {op : Operator} {pos : Pos} (h : EW B n env loc l H fun a H1 => EW B n env loc r H1 fun b H2 => PW2 B n (binaryOp op) a b H2 Q) : EW B n env loc (.BinOp l op r pos) H Q :=
  fun A E s ρ QQ hA S L kk => wpAny_BinOp (h A E s ρ _ hA S L fun a a' H1 ρ1 s1 q va S1 st1 => q A E s1 ρ1 _ hA S1 (L.step st1) fun b b' H2 ρ2 s2 q2 vb S2 st2 =>
    q2 A E s2 ρ2 a' b' _ hA S2 (st2.mono va) vb fun v v' H3 ρ3 s3 q3 vv S3 st3 => kk v v' H3 ρ3 s3 q3 vv S3 ((st1.trans S1 st2).trans S2 st3))

theorem EW.compare {l r : Expr} {op : CmpOp} {pos : Pos} (h : EW B n env loc l H fun a H1 => EW B n env loc r H1 fun b H2 => PW2 B n (compareOp op) a b H2 Q)
    (hm : behindInMarks op r = false := by with_unfolding_all rfl) : EW B n env loc (.Compare l [op] [r] pos) H Q :=
  fun A E s ρ QQ hA S L kk => wpAny_Compare1 (h A E s ρ _ hA S L fun a a' H1 ρ1 s1 q va S1 st1 => q A E s1 ρ1 _ hA S1 (L.step st1) fun b b' H2 ρ2 s2 q2 vb S2 st2 =>
    q2 A E s2 ρ2 a' b' _ hA S2 (st2.mono va) vb fun v v' H3 ρ3 s3 q3 vv S3 st3 => kk v v' H3 ρ3 s3 q3 vv S3 ((st1.trans S1 st2).trans S2 st3)) hm

theorem TW.compare {l r : Expr} {op : CmpOp} {pos : Pos} {Q : Bool → List O → Prop} (h : EW B n env loc l H fun a H1 => EW B n env loc r H1 fun b H2 => PW2 B n (compareOp op) a b H2 fun v H3 => TV B n v H3 Q)
    (hm : behindInMarks op r = false := by with_unfolding_all rfl) : TW B n env loc (.Compare l [op] [r] pos) H Q :=
  fun A E s ρ QQ hA S L kk => wpAny_isTrue_Compare1 (h A E s ρ _ hA S L fun a a' H1 ρ1 s1 q va S1 st1 => q A E s1 ρ1 _ hA S1 (L.step st1) fun b b' H2 ρ2 s2 q2 vb S2 st2 =>
    q2 A E s2 ρ2 a' b' _ hA S2 (st2.mono va) vb fun v v' H3 ρ3 s3 q3 vv S3 st3 => q3 A E s3 ρ3 v' _ hA S3 vv fun b H4 ρ4 s4 q4 S4 st4 => kk b H4 ρ4 s4 q4 S4 (((st1.trans S1 st2).trans S2 st3).trans S3 st4)) hm

theorem TV.bool {b : Bool} {Q : Bool → List O → Prop} (q : Q b H) : TV B n (.bool b) H Q := fun A E s ρ v' QQ hA S hv kk => by
  obtain rfl := hv
  exact wpAny_truthy_bool (kk b H ρ s q S Step.refl)

theorem TW.not {e : Expr} {pos : Pos} {Q : Bool → List O → Prop} (h : TW B n env loc e H fun b H1 => Q (!b) H1) : TW B n env loc (.UnaryOp .Not e pos) H Q :=
  fun A E s ρ QQ hA S L kk => by
    rw [arm_isTrue_UnaryOp]
    exact wpAny_bind (h A E s ρ _ hA S L fun b H1 ρ1 s1 q S1 st1 => wpAny_pure (kk (!b) H1 ρ1 s1 q S1 st1))

theorem TW.and2 {a b : Expr} {pos : Pos} {Q : Bool → List O → Prop} (h : TW B n env loc a H fun x H1 => cond x (TW B n env loc b H1 Q) (Q false H1)) : TW B n env loc (.BoolOp .And [a, b] pos) H Q :=
  fun A E s ρ QQ hA S L kk => by
    rw [arm_isTrue_BoolOp, arm_allTrue_cons]
    refine wpAny_bind (h A E s ρ _ hA S L fun x H1 ρ1 s1 q S1 st1 => ?_)
    cases x with
    | false => exact wpAny_pure (kk false H1 ρ1 s1 q S1 st1)
    | true =>
      show wpAny _ _ (allTrue .And [b] env) _ _ _
      rw [arm_allTrue_cons]
      refine wpAny_bind (q A E s1 ρ1 _ hA S1 (L.step st1) fun y H2 ρ2 s2 q2 S2 st2 => ?_)
      cases y with
      | false => exact wpAny_pure (kk false H2 ρ2 s2 q2 S2 (st1.trans S1 st2))
      | true => exact wpAny_pure (kk true H2 ρ2 s2 q2 S2 (st1.trans S1 st2))
theorem TW.or2 {a b : Expr} {pos : Pos} {Q : Bool → List O → Prop} (h : TW B n env loc a H fun x H1 => cond x (Q true H1) (TW B n env loc b H1 Q)) : TW B n env loc (.BoolOp .Or [a, b] pos) H Q :=
  fun A E s ρ QQ hA S L kk => by
    rw [arm_isTrue_BoolOp, arm_allTrue_cons]
    refine wpAny_bind (h A E s ρ _ hA S L fun x H1 ρ1 s1 q S1 st1 => ?_)
    cases x with
    | true => exact wpAny_pure (kk true H1 ρ1 s1 q S1 st1)
    | false =>
      show wpAny _ _ (allTrue .Or [b] env) _ _ _
      rw [arm_allTrue_cons]
      refine wpAny_bind (q A E s1 ρ1 _ hA S1 (L.step st1) fun y H2 ρ2 s2 q2 S2 st2 => ?_)
      cases y with
      | false => exact wpAny_pure (kk false H2 ρ2 s2 q2 S2 (st1.trans S1 st2))
      | true => exact wpAny_pure (kk true H2 ρ2 s2 q2 S2 (st1.trans S1 st2))

/-- a test that is a plain expression -/
theorem TW.plain {e : Expr} {Q : Bool → List O → Prop} (h : EW B n env loc e H fun v H1 => TV B n v H1 Q)
    (he : ∀ t : Sem Value, isTrue e env t = (do let v ← t; standAt e.pos; holding [v] (truthy v)) := by intro _; rfl) : TW B n env loc e H Q :=
  fun A E s ρ QQ hA S L kk => by
    rw [he]
    exact wpAny_bind (h A E s ρ _ hA S L fun v v' H1 ρ1 s1 q vv S1 st1 => wpAny_bind (wpAny_standAt (wpAny_holding (q A E s1 ρ1 v' _ hA S1 vv fun b H2 ρ2 s2 q2 S2 st2 => kk b H2 ρ2 s2 q2 S2 (st1.trans S1 st2)))))

theorem EW.ifexp {t a b : Expr} {pos : Pos} (h : TW B n env loc t H fun x H1 => cond x (EW B n env loc a H1 Q) (EW B n env loc b H1 Q)) : EW B n env loc (.IfExp t a b pos) H Q :=
  fun A E s ρ QQ hA S L kk => by
    rw [arm_eval_IfExp]
    refine wpAny_bind (h A E s ρ _ hA S L fun x H1 ρ1 s1 q S1 st1 => ?_)
    cases x with
    | true => exact q A E s1 ρ1 _ hA S1 (L.step st1) fun v v' H2 ρ2 s2 q2 vv S2 st2 => kk v v' H2 ρ2 s2 q2 vv S2 (st1.trans S1 st2)
    | false => exact q A E s1 ρ1 _ hA S1 (L.step st1) fun v v' H2 ρ2 s2 q2 vv S2 st2 => kk v v' H2 ρ2 s2 q2 vv S2 (st1.trans S1 st2)

theorem EWs.nil {Q : List V → List O → Prop} (q : Q [] H) : EWs B n env loc [] H Q := fun A E s ρ QQ pos hA S L kk => spliced_nil (kk _ _ _ ρ _ q .nil S Step.refl)
theorem EWs.cons {e : Expr} {rest : List Expr} {Q : List V → List O → Prop} (h : EW B n env loc e H fun v H1 => EWs B n env loc rest H1 fun vs H2 => Q (v :: vs) H2)
    (he : starEach (e :: rest) env = (false, eval e env) :: starEach rest env := by rfl) : EWs B n env loc (e :: rest) H Q := fun A E s ρ QQ pos hA S L kk => by
  rw [he]
  exact spliced_cons (h A E s ρ _ hA S L fun v v' H1 ρ1 s1 q vv S1 st1 => q A E s1 ρ1 _ pos hA S1 (L.step st1) fun vs vs' H2 ρ2 s2 q2 vvs S2 st2 => kk _ _ _ _ _ q2 (.cons (st2.mono vv) vvs) S2 (st1.trans S1 st2))

/-- a thing of the top that is called -/
inductive Callee (B : Wd) : Value → Prop
  | builtin (id : String) : Callee B (.builtin id)
  | type (T : String) : Callee B (.type T)
  | fn {a : Addr} {o : Obj} {fd : FuncData} : B.hb.get? a = some o → o.data = .func fd → a ≠ B.P → Callee B (.ref a)
  | bound {a : Addr} {o : Obj} {vs : Array Value} : B.hb.get? a = some o → o.data = .fields vs → o.cls = .type "builtin_function_or_method" → a ≠ B.P → Callee B (.ref a)

theorem wpAny_callWith {A : Around} {E : Value → Shared → Prop} {s : Shared} {f : Value} {first : List Value} {args : List (Bool × Sem Value)} {pos : Pos} {QQ : Value → Shared → Prop} (hf : Callee B f) (hplain : args.any (·.1) = false)
    (h : wpAny B.M A (evalArgs f true args []) (fun a s₁ => (∀ b o, B.hb.get? b = some o → B.NP b → s₁.heap.get? b = some o) ∧ wpAny B.M A (call f (first ++ a.pos) a.kw) QQ E s₁) E s) : wpAny B.M A (callWith pos f first args []) QQ E s := by
  cases hf with
  | builtin id => exact callWith_builtin hplain (wpAny_mono h (fun _ _ x => x.2) fun _ _ x => x)
  | type T => exact PyProof.Rows.callWith_type hplain (wpAny_mono h (fun _ _ x => x.2) fun _ _ x => x)
  | fn e d nP => exact callWith_function (wpAny_mono h (fun _ _ x => ⟨⟨x.1 _ _ e (np nP), d⟩, x.2⟩) fun _ _ x => x)
  | @bound a o vs e d c nP =>
    refine callWith_of (P := fun h => h.get? a = some o) (by simpa using hplain) (fun h hh => ⟨.machine, .inr (.inl rfl), ?_⟩) (wpAny_mono h (fun _ _ x => ⟨x.1 _ _ e (np nP), x.2⟩) fun _ _ x => x)
    have : keeperOf (.ref a) = (load a >>= fun o => match o.data with
      | .func _ => pure .frame
      | .cls _ => (do return if (← specialOf (.ref a) "__call__") == some (.builtin "type.__call__") then .machine else .caller)
      | .fields vs => (do
        if o.cls != .type "method" then
          return if o.cls == .type "builtin_function_or_method" || o.cls == .type "method-wrapper" then .machine else .caller
        let .ref g := vs.getD 0 .none | return .machine
        return match (← load g).data with | .func _ => .boundFrame | _ => .caller)
      | _ => pure .caller) := rfl
    rw [this]
    refine (Looks.ld (part := none) hh).andThen ?_
    rw [d, c]
    exact .now

theorem EW.call {f : Str} {fv : Value} {fpos pos : Pos} {e : Expr} {rest : List Expr} (W : B.Ok) (hg : Glob B f fv) (hf : Callee B fv) (h : EWs B n env loc (e :: rest) H fun vs H1 => CW B n fv vs H1 Q)
    (hk : env.kindOf f = some .globalImplicit := by rfl) (hd : (f == ("__debug__" : Str)) = false := by decide)
    (he : starEach (e :: rest) env = (false, eval e env) :: starEach rest env := by rfl) (hplain : (backTo pos (starEach rest env)).any (·.1) = false := by rfl)
    (hn : eval (.Call (.Name f fpos) (e :: rest) [] pos) env = (do callWith pos (← eval (.Name f fpos) env) [] (backTo pos (starEach (e :: rest) env)) (backToKw pos (keywordEach [] env))) := by rfl) :
    EW B n env loc (.Call (.Name f fpos) (e :: rest) [] pos) H Q := fun A E s ρ QQ hA S L kk => by
  rw [hn]
  refine wpAny_bind (wpAny_glob W S L hk hg ?_ hd)
  have hp : (backTo pos (starEach (e :: rest) env)).any (·.1) = false := by rw [he]; show (false || (backTo pos (starEach rest env)).any (·.1)) = false; rw [hplain]; rfl
  refine wpAny_callWith (first := []) (args := backTo pos (starEach (e :: rest) env)) hf hp ?_
  have h' := h A E s ρ (fun vs' s₁ => (∀ b o, B.hb.get? b = some o → B.NP b → s₁.heap.get? b = some o) ∧ wpAny B.M A (PySem.call fv vs') QQ E s₁) pos hA S L fun vs vs' H1 ρ1 s1 q vv S1 st1 =>
    ⟨S1.keep, q A E s1 ρ1 vs' QQ hA S1 vv fun v v' H2 ρ2 s2 q2 vv2 S2 st2 => kk v v' H2 ρ2 s2 q2 vv2 S2 (st1.trans S1 st2)⟩
  rw [he] at h' ⊢
  exact evalArgs_plain h'

/-- the built-in type of a value -/
def TyOf (H : List O) (T : String) : V → Prop
  | .str _ => T = "str"
  | .ref k => ∃ o, H[k]? = some o ∧ match o with | .list _ => T = "list" | .dict _ => T = "dict" | .range _ _ => T = "range"
  | _ => False

theorem TyOf.is {ρ : List Addr} {s : Shared} {T : String} {v : V} {v' : Value} (S : SB B ρ H s) (h : TyOf H T v) (hv : VR ρ v v') : s.TypeIs v' T ∧ (∀ a, v' = .ref a → ∃ ob, s.heap.get? a = some ob ∧ ob.dict = none) := by
  cases v with
  | str x => obtain ⟨t, rfl⟩ := hv; obtain rfl := h; exact ⟨typeIs_str _ _ _, fun a e => by cases e⟩
  | ref k =>
    obtain ⟨o, e, h⟩ := h
    obtain ⟨a, e', rfl⟩ := hv
    have := S.objs k o a e e'
    cases o with
    | list vs =>
      obtain rfl := h
      obtain ⟨vs', n, g, _⟩ := this
      exact ⟨⟨_, g, rfl⟩, fun b e => by cases e; exact ⟨_, g, rfl⟩⟩
    | dict es =>
      obtain rfl := h
      obtain ⟨lo, kvs, hd, hf⟩ := this
      exact ⟨hd.typeIs, hd.mapOf.noDict⟩
    | range _ _ =>
      obtain rfl := h
      obtain ⟨t, u, v, g⟩ := this
      exact ⟨⟨_, g, rfl⟩, fun b e => by cases e; exact ⟨_, g, rfl⟩⟩
  | _ => exact h.elim

theorem EW.meth {o : Expr} {name : Str} {apos pos : Pos} {e : Expr} {rest : List Expr} {T id : String} (pa : PlainAttrs T) (slot : Slot T name id) (hty : typeOf (.builtin id) = pure (.type "method_descriptor"))
    (h : EW B n env loc o H fun ov H1 => TyOf H1 T ov ∧ EWs B n env loc (e :: rest) H1 fun vs H2 => CW B n (.builtin id) (ov :: vs) H2 Q)
    (hbase : attributeBase o name env (eval o env) = eval o env := by rfl)
    (hfew : ((backTo pos (starEach (e :: rest) env)).all (fun x => !x.1) && (backToKw pos (keywordEach [] env)).all (fun x => x.1.isSome)
      && decide ((e :: rest).length + ([] : List Keyword).length + (if ([] : List Keyword).isEmpty then 0 else 1) < 30)) = true := by rfl)
    (hline : (apos.endLine == pos.line) = true := by rfl)
    (he : starEach (e :: rest) env = (false, eval e env) :: starEach rest env := by rfl) (hplain : (backTo pos (starEach rest env)).any (·.1) = false := by rfl) :
    EW B n env loc (.Call (.Attribute o name apos) (e :: rest) [] pos) H Q := fun A E s ρ QQ hA S L kk => by
  refine wpAny_Call_method hbase hfew hline pa slot hty (h A E s ρ _ hA S L fun ov ov' H1 ρ1 s1 q vo S1 st1 => ?_)
  obtain ⟨h1, h2⟩ := q.1.is S1 vo
  refine ⟨h1, h2, ?_⟩
  have hp : (backTo pos (starEach (e :: rest) env)).any (·.1) = false := by rw [he]; show (false || (backTo pos (starEach rest env)).any (·.1)) = false; rw [hplain]; rfl
  refine callWith_builtin hp ?_
  have h' := q.2 A E s1 ρ1 (fun vs' s₁ => wpAny B.M A (PySem.call (.builtin id) ([ov'] ++ vs')) QQ E s₁) pos hA S1 (L.step st1) fun vs vs' H2 ρ2 s2 q2 vv S2 st2 =>
    q2 A E s2 ρ2 _ QQ hA S2 (.cons (st2.mono vo) vv) fun v v' H3 ρ3 s3 q3 vv3 S3 st3 => kk v v' H3 ρ3 s3 q3 vv3 S3 ((st1.trans S1 st2).trans S2 st3)
  rw [he] at h' ⊢
  exact evalArgs_plain h'

end
end Mine

end
section
open PySem PySem.W PySem.Calls PyProof.Rows
set_option maxRecDepth 100000
namespace Mine

def V.toInt : V → Option Int
  | .int i => some i
  | _ => Option.none

theorem VR.toInt {ρ : List Addr} {v : V} {v' : Value} {i : Int} (h : VR ρ v v') (e : v.toInt = some i) : ∃ t, v' = .int i t := by
  cases v with
  | int j => cases e; exact h
  | _ => cases e

section
variable {B : Wd} {n : Nat} {H : List O} {Q : V → List O → Prop} {x y : Int}

theorem SB.ltok {ρ H s} (S : SB B ρ H s) : B.t0 ≤ s.toks + 1 := by have := S.toks; omega
theorem SB.ltok2 {ρ H s} (S : SB B ρ H s) : B.t0 ≤ s.toks + 1 + 1 := by have := S.toks; omega

theorem PW2.add (q : Q (.int (x + y)) H) : PW2 B n (binaryOp .Add) (.int x) (.int y) H Q := fun A E s ρ a' b' QQ hA S va vb kk => by
  obtain ⟨t, rfl⟩ := va; obtain ⟨u, rfl⟩ := vb
  exact add_int (kk _ _ _ ρ _ q ⟨_, rfl⟩ (S.tok S.ltok) Step.tok)
theorem PW2.sub (q : Q (.int (x - y)) H) : PW2 B n (binaryOp .Sub) (.int x) (.int y) H Q := fun A E s ρ a' b' QQ hA S va vb kk => by
  obtain ⟨t, rfl⟩ := va; obtain ⟨u, rfl⟩ := vb
  exact sub_int' (kk _ _ _ ρ _ q ⟨_, rfl⟩ (S.tok S.ltok) Step.tok)
theorem PW2.mul (hm : IntMulOk x y) (q : Q (.int (x * y)) H) : PW2 B n (binaryOp .Mult) (.int x) (.int y) H Q := fun A E s ρ a' b' QQ hA S va vb kk => by
  obtain ⟨t, rfl⟩ := va; obtain ⟨u, rfl⟩ := vb
  exact mul_int (kk _ _ _ ρ _ q ⟨_, rfl⟩ (S.tok S.ltok) Step.tok) hm
theorem PW2.fdiv (h0 : y ≠ 0) (hs : y.natAbs < 1073741824) (q : Q (.int (x.fdiv y)) H) : PW2 B n (binaryOp .FloorDiv) (.int x) (.int y) H Q := fun A E s ρ a' b' QQ hA S va vb kk => by
  obtain ⟨t, rfl⟩ := va; obtain ⟨u, rfl⟩ := vb
  exact floordiv_int h0 (kk _ _ _ ρ _ q ⟨_, rfl⟩ (S.tok S.ltok) Step.tok) (.inl (PyProof.noPylong_small hs))
theorem PW2.fmod (h0 : y ≠ 0) (q : Q (.int (x.fmod y)) H) : PW2 B n (binaryOp .Mod) (.int x) (.int y) H Q := fun A E s ρ a' b' QQ hA S va vb kk => by
  obtain ⟨t, rfl⟩ := va; obtain ⟨u, rfl⟩ := vb
  exact mod_int' h0 (kk _ _ _ ρ _ q ⟨_, rfl⟩ (S.tok S.ltok) Step.tok)
theorem PW2.pow (h0 : 0 ≤ y) (hs : (Builtin.Int.intBits x : Int) * y ≤ 2 ^ 27) (q : Q (.int (x ^ y.toNat)) H) : PW2 B n (binaryOp .Pow) (.int x) (.int y) H Q := fun A E s ρ a' b' QQ hA S va vb kk => by
  obtain ⟨t, rfl⟩ := va; obtain ⟨u, rfl⟩ := vb
  exact pow_int h0 hs (kk _ _ _ ρ _ q ⟨_, rfl⟩ (S.tok S.ltok) Step.tok)
theorem PW2.band (q : Q (.int (Builtin.bitAnd x y)) H) : PW2 B n (binaryOp .BitAnd) (.int x) (.int y) H Q := fun A E s ρ a' b' QQ hA S va vb kk => by
  obtain ⟨t, rfl⟩ := va; obtain ⟨u, rfl⟩ := vb
  exact and_int (kk _ _ _ ρ _ q ⟨_, rfl⟩ (S.tok S.ltok) Step.tok)
theorem PW2.eqi (q : Q (.bool (x == y)) H) : PW2 B n (compareOp .Eq) (.int x) (.int y) H Q := fun A E s ρ a' b' QQ hA S va vb kk => by
  obtain ⟨t, rfl⟩ := va; obtain ⟨u, rfl⟩ := vb
  exact eq_int (kk _ _ _ ρ _ q rfl S Step.refl)
theorem PW2.lti (q : Q (.bool (decide (x < y))) H) : PW2 B n (compareOp .Lt) (.int x) (.int y) H Q := fun A E s ρ a' b' QQ hA S va vb kk => by
  obtain ⟨t, rfl⟩ := va; obtain ⟨u, rfl⟩ := vb
  exact lt_int (kk _ _ _ ρ _ q rfl S Step.refl)
theorem PW2.gti (q : Q (.bool (decide (y < x))) H) : PW2 B n (compareOp .Gt) (.int x) (.int y) H Q := fun A E s ρ a' b' QQ hA S va vb kk => by
  obtain ⟨t, rfl⟩ := va; obtain ⟨u, rfl⟩ := vb
  exact gt_int (kk _ _ _ ρ _ q rfl S Step.refl)
theorem PW2.adds {p r : Str} (hsz : p.length + r.length ≤ sizeLine) (q : Q (.str (p ++ r)) H) : PW2 B n (binaryOp .Add) (.str p) (.str r) H Q := fun A E s ρ a' b' QQ hA S va vb kk => by
  obtain ⟨t, rfl⟩ := va; obtain ⟨u, rfl⟩ := vb
  exact wpAny_with_toks S.toks (add_str (fun t' tk ht => kk _ _ _ ρ _ q ⟨t', rfl⟩ (S.tok ht) Step.tok) hsz)
theorem PW2.eqs {p r : Str} (q : Q (.bool (p == r)) H) : PW2 B n (compareOp .Eq) (.str p) (.str r) H Q := fun A E s ρ a' b' QQ hA S va vb kk => by
  obtain ⟨t, rfl⟩ := va; obtain ⟨u, rfl⟩ := vb
  exact eq_str (kk _ _ _ ρ _ q rfl S Step.refl)
theorem PW2.nes {p r : Str} (q : Q (.bool (p != r)) H) : PW2 B n (compareOp .NotEq) (.str p) (.str r) H Q := fun A E s ρ a' b' QQ hA S va vb kk => by
  obtain ⟨t, rfl⟩ := va; obtain ⟨u, rfl⟩ := vb
  exact ne_str (kk _ _ _ ρ _ q rfl S Step.refl)
/-- is p a part of r -/
def strIn (p r : Str) : Bool := !(Builtin.Str.occurrences r p 0 r.length 1).isEmpty
theorem PW2.ins {p r : Str} (q : Q (.bool (strIn p r)) H) : PW2 B n (compareOp .In) (.str p) (.str r) H Q := fun A E s ρ a' b' QQ hA S va vb kk => by
  obtain ⟨t, rfl⟩ := va; obtain ⟨u, rfl⟩ := vb
  exact in_str (kk _ _ _ ρ _ q rfl S Step.refl)
theorem PW2.nins {p r : Str} (q : Q (.bool (!strIn p r)) H) : PW2 B n (compareOp .NotIn) (.str p) (.str r) H Q := fun A E s ρ a' b' QQ hA S va vb kk => by
  obtain ⟨t, rfl⟩ := va; obtain ⟨u, rfl⟩ := vb
  exact notIn_str (kk _ _ _ ρ _ q rfl S Step.refl)
theorem PW2.isNone (q : Q (.bool true) H) : PW2 B n (compareOp .Is) .none .none H Q := fun A E s ρ a' b' QQ hA S va vb kk => by
  obtain rfl := va; obtain rfl := vb
  exact is_none_none (kk _ _ _ ρ _ q rfl S Step.refl)
theorem PW2.isNoneExt {d : Addr} (q : Q (.bool false) H) : PW2 B n (compareOp .Is) (.ext d) .none H Q := fun A E s ρ a' b' QQ hA S va vb kk => by
  obtain rfl := va; obtain rfl := vb
  exact is_none_ne (by intro e; cases e) (kk _ _ _ ρ _ q rfl S Step.refl)

theorem TV.str {p : Str} {Q : Bool → List O → Prop} (hf : (p.length : Int) < 2 ^ 63) (q : Q ((p.length : Int) != 0) H) : TV B n (.str p) H Q := fun A E s ρ v' QQ hA S hv kk => by
  obtain ⟨t, rfl⟩ := hv
  exact PySem.P.truthy_str (by omega) (kk _ _ ρ _ q (S.tok S.ltok2) Step.tok)

/-! calls of built-in functions -/
theorem CW.lens {p : Str} (hf : (p.length : Int) < 2 ^ 63) (q : Q (.int p.length) H) : CW B n (.builtin "len") [.str p] H Q := fun A E s ρ vs' QQ hA S hv kk => by
  obtain _ | ⟨⟨t, rfl⟩, _ | _⟩ := hv
  exact len_str (by omega) (kk _ _ _ ρ _ q ⟨_, rfl⟩ (S.tok S.ltok2) Step.tok)
theorem CW.lenl {k : Nat} {vs : List V} (hk : H[k]? = some (.list vs)) (hf : (vs.length : Int) < 2 ^ 63) (q : Q (.int vs.length) H) : CW B n (.builtin "len") [.ref k] H Q := fun A E s ρ vs' QQ hA S hv kk => by
  obtain _ | ⟨⟨a, e, rfl⟩, _ | _⟩ := hv
  obtain ⟨vs', m, g, r⟩ := S.objs k _ a hk e
  have hl : s.heap.IsList a vs'.toArray := ⟨_, g, rfl, m, rfl⟩
  have hz : vs'.toArray.size = vs.length := by simp [r.length]
  refine len_list hl (by rw [hz]; exact hf) ?_
  rw [hz]
  exact kk _ _ _ ρ _ q ⟨_, rfl⟩ (S.tok S.ltok2) Step.tok
theorem CW.chr {i : Int} (h0 : 0 ≤ i) (h1 : i ≤ 1114111) (q : Q (.str ⟨#[i.toNat]⟩) H) : CW B n (.builtin "chr") [.int i] H Q := fun A E s ρ vs' QQ hA S hv kk => by
  obtain _ | ⟨⟨t, rfl⟩, _ | _⟩ := hv
  exact chr_of_range h0 h1 (kk _ _ _ ρ _ q ⟨_, rfl⟩ (S.tok S.ltok) Step.tok)
/-- the intsOf of a list -/
def intsOf : List V → Option (List Int)
  | [] => some []
  | v :: r => match v.toInt, intsOf r with
    | some i, some l => some (i :: l)
    | _, _ => Option.none
theorem VRs.intsOf {ρ : List Addr} {vs vs'} (h : VRs ρ vs vs') : ∀ {is}, Mine.intsOf vs = some is → IntsAre vs' is := by
  induction h with
  | nil => intro is e; cases e; exact .nil
  | @cons v v' vs vs' h _ ih =>
    intro is e
    unfold Mine.intsOf at e
    split at e
    · rename_i i l e1 e2
      cases e
      obtain ⟨t, rfl⟩ := h.toInt e1
      exact .cons i t (ih e2)
    · cases e
theorem CW.sum {k : Nat} {vs : List V} {is : List Int} (hk : H[k]? = some (.list vs)) (hi : intsOf vs = some is) (q : Q (.int is.sum) H) : CW B n (.builtin "sum") [.ref k] H Q := fun A E s ρ vs' QQ hA S hv kk => by
  obtain _ | ⟨⟨a, e, rfl⟩, _ | _⟩ := hv
  obtain ⟨vs', m, g, r⟩ := S.objs k _ a hk e
  have hl : s.heap.IsList a vs'.toArray := ⟨_, g, rfl, m, rfl⟩
  have hI := r.intsOf hi
  obtain ⟨xs, hx⟩ := hI.allInts.items
  rw [hx] at hl
  refine wpAny_with_toks S.toks (sum_intListG hA.h hl fun h' tk t' hk' htk => ?_)
  have hs : preSum (numAt xs) xs.size = is.sum := by
    have h1 := hI.numsOf
    have h2 := nums_intItems xs
    rw [← hx, show vs'.toArray.toList = vs' from rfl, h1] at h2
    rw [preSum_eq, List.take_of_length_le (by simp), h2]
  rw [hs]
  exact kk _ _ _ ρ _ q ⟨t', rfl⟩ (S.keeps hk' htk) (Step.keeps hk')
end
end Mine

end
section
open PySem PySem.W PySem.Calls PyProof.Rows
set_option maxRecDepth 100000
namespace Mine
section
variable {B : Wd} {n : Nat} {env : Env} {loc : Loc} {H : List O} {Q : V → List O → Prop}

theorem SB.list {ρ H s} (S : SB B ρ H s) {k : Nat} {vs : List V} {a : Addr} (hk : H[k]? = some (.list vs)) (e : ρ[k]? = some a) : ∃ vs' m, s.heap.get? a = some (listOf vs'.toArray m) ∧ VRs ρ vs vs' ∧ s.heap.IsList a vs'.toArray := by
  obtain ⟨vs', m, g, r⟩ := S.objs k _ a hk e
  exact ⟨vs', m, g, r, ⟨_, g, rfl, m, rfl⟩⟩

/-! an item -/
theorem EW.item {value slice : Expr} {pos : Pos} (h : EW B n env loc value H fun o H1 => EW B n env loc slice H1 fun i H2 => PW2 B n (subscriptTail value slice) o i H2 Q) : EW B n env loc (.Subscript value slice pos) H Q :=
  fun A E s ρ QQ hA S L kk => Subscript_ (h A E s ρ _ hA S L fun a a' H1 ρ1 s1 q va S1 st1 => q A E s1 ρ1 _ hA S1 (L.step st1) fun b b' H2 ρ2 s2 q2 vb S2 st2 =>
    q2 A E s2 ρ2 a' b' _ hA S2 (st2.mono va) vb fun v v' H3 ρ3 s3 q3 vv S3 st3 => kk v v' H3 ρ3 s3 q3 vv S3 ((st1.trans S1 st2).trans S2 st3))

theorem PW2.item {value slice : Expr} {k : Nat} {vs : List V} {i : Int} {v : V} (hk : H[k]? = some (.list vs)) (h0 : 0 ≤ i) (hf : i < 2 ^ 63) (hv : vs[i.toNat]? = some v) (q : Q v H)
    (hs : ∀ l u, subscripted slice false (.ref l) (.int i u) = operate [.ref l, .int i u] (getItem (.ref l) (.int i u)) := by intro _ _; with_unfolding_all rfl) :
    PW2 B n (subscriptTail value slice) (.ref k) (.int i) H Q := fun A E s ρ a' b' QQ hA S va vb kk => by
  obtain ⟨a, e, rfl⟩ := va; obtain ⟨u, rfl⟩ := vb
  obtain ⟨vs', m, g, r, hl⟩ := S.list hk e
  obtain ⟨v', hx, vv⟩ := r.get hv
  exact item_listR hl h0 hf (by simpa using hx) (kk _ _ _ ρ _ q vv S Step.refl) (hs _ _)

theorem PW2.itemS {value slice : Expr} {x : Str} {i : Int} {c : Nat} (h0 : 0 ≤ i) (hf : i < 2 ^ 63) (hc : x.cps[i.toNat]? = some c) (q : Q (.str ⟨#[c]⟩) H)
    (hs : ∀ t u, subscripted slice false (.str x t) (.int i u) = operate [.str x t, .int i u] (getItem (.str x t) (.int i u)) := by intro _ _; with_unfolding_all rfl) :
    PW2 B n (subscriptTail value slice) (.str x) (.int i) H Q := fun A E s ρ a' b' QQ hA S va vb kk => by
  obtain ⟨t, rfl⟩ := va; obtain ⟨u, rfl⟩ := vb
  have hlt : i.toNat < x.length := (Array.getElem?_eq_some_iff.mp hc).1
  refine subscriptTail_builtin (typeIs_str _ _ _) PySem.F.slot_str_getitem.lookup (getItem_str (c := c) (by simp; omega) ?_ (kk _ _ _ ρ _ q ⟨_, rfl⟩ (S.tok S.ltok) Step.tok)) (hs _ _) (fun r => ?_)
  · have : seqIndex? i x.length = some i.toNat := by
      unfold seqIndex?
      have h1 : ¬ i < 0 := by omega
      have h2 : i < x.length := by omega
      simp [h1, h0, h2]
    rw [this]; exact hc
  · unfold letTemporaryGo; split <;> first | rfl | (rename_i h; cases h)

/-! slices -/
/-- an end of a slice -/
def EP (B : Wd) (n : Nat) (env : Env) (loc : Loc) (e : Option Expr) (H : List O) (Q : Option Int → List O → Prop) : Prop :=
  ∀ (A : Around) (E : Value → Shared → Prop) (s : Shared) (ρ : List Addr) (QQ : Value → Shared → Prop), AOk n A → SB B ρ H s → LocR B env loc ρ s.heap →
    (∀ v v' H' ρ' s', Q v H' → (∃ l : Option (Int × Tok), l.map (·.1) = v ∧ v' = partValue l) → SB B ρ' H' s' → Step B ρ ρ' s s' → QQ v' s') → wpAny B.M A (evalPart e env) QQ E s
theorem EP.none {Q : Option Int → List O → Prop} (q : Q Option.none H) : EP B n env loc Option.none H Q := fun A E s ρ QQ hA S L kk => wpAny_pure (kk _ _ _ ρ _ q ⟨Option.none, rfl, rfl⟩ S Step.refl)
theorem EP.some {e : Expr} {Q : Option Int → List O → Prop} (h : EW B n env loc e H fun v H1 => ∃ i, v = .int i ∧ Q (Option.some i) H1) : EP B n env loc (Option.some e) H Q := fun A E s ρ QQ hA S L kk =>
  h A E s ρ QQ hA S L fun v v' H1 ρ1 s1 q vv S1 st1 => by
    obtain ⟨i, rfl, q⟩ := q
    obtain ⟨t, rfl⟩ := vv
    exact kk _ _ _ _ _ q ⟨Option.some (i, t), rfl, rfl⟩ S1 st1

theorem slice_made {x : Str} {t : Tok} {l u : Option (Int × Tok)} : sliceMade x t l u Option.none = if ((1 : Int) == 1 && (Builtin.Str.strSliceIndices (l.map (·.1)) (u.map (·.1)) 1 x.length).length == x.length) = true then .val (.str x t)
  else .str ⟨((Builtin.Str.strSliceIndices (l.map (·.1)) (u.map (·.1)) 1 x.length).filterMap (x.cps[·]?)).toArray⟩ := rfl

theorem EW.sliceS {value : Expr} {lower upper : Option Expr} {p pos : Pos} {x : Str} {lo hi : Option Int}
    (h : EW B n env loc value H fun o H1 => EP B n env loc lower H1 fun l H2 => EP B n env loc upper H2 fun u H3 => ∃ x, o = .str x ∧ x.length ≤ sizeLine ∧ Q (.str (Txt.slice x l u)) H3)
    (ht : ∀ o r, letTemporaryGo value o r = pure () := by intro _ _; rfl) : EW B n env loc (.Subscript value (.Slice lower upper Option.none p) pos) H Q := fun A E s ρ QQ hA S L kk => by
  refine wpAny_with_toks S.toks (wpAny_Subscript_str_slice (h A _ s ρ _ hA S L fun o o' H1 ρ1 s1 q vo S1 st1 => q A _ s1 ρ1 _ hA S1 (L.step st1) fun l l' H2 ρ2 s2 q2 hl S2 st2 => q2 A _ s2 ρ2 _ hA S2 ((L.step st1).step st2) fun u u' H3 ρ3 s3 q3 hu S3 st3 => ?_) ht)
  obtain ⟨x, rfl, hsz, q⟩ := q3
  obtain ⟨l, rfl, rfl⟩ := hl
  obtain ⟨u, rfl, rfl⟩ := hu
  obtain ⟨t, rfl⟩ := vo
  refine ⟨x, t, l, u, rfl, rfl, rfl, ?_⟩
  rw [slice_made]
  have hk : ∀ b o, s3.heap.get? b = some o → (s3.heap.push { cls := .type "slice", data := .fields #[partValue l, partValue u, .none] }).get? b = some o := fun b o e => Heap.get?_push_of_some _ e
  refine post_val_or_str ⟨Nat.le_trans (Txt.slice_le x _ _) hsz, fun t' tk htk => ?_⟩
  exact kk _ _ _ ρ3 _ q ⟨t', rfl⟩ (S3.keeps hk htk) (((st1.trans S1 st2).trans S2 st3).trans S3 (Step.keeps hk))

/-- the items of a list from lo up to hi -/
theorem slicePick_to (items : Array Value) (b : Int) (h0 : 0 ≤ b) : slicePick items Option.none (Option.some b) Option.none = (items.toList.take b.toNat).toArray := by
  obtain ⟨j, rfl⟩ := Int.eq_ofNat_of_zero_le h0
  by_cases h : j ≤ items.size
  · exact slicePick_upto items j h
  · have e : sliceBounds Option.none (Option.some (j : Int)) Option.none items.size = (((0 : Nat) : Int), (items.size : Int), 1) := by
      simp only [sliceBounds, Option.getD_none]
      have h2 : ¬ ((j : Int) < 0) := by omega
      simp only [h2, if_false, show (1 : Int) > 0 by decide, if_true]
      congr 1
      congr 1; omega
    unfold slicePick
    rw [e]
    simp only [sliceRange_one, pick_run]
    simp
    omega

theorem EW.sliceL {value upper : Expr} {p pos : Pos} {k : Nat}
    (h : EW B n env loc value H fun o H1 => EW B n env loc upper H1 fun u H2 => ∃ k vs b, o = .ref k ∧ H2[k]? = some (.list vs) ∧ u = .int b ∧ 0 ≤ b ∧ vs.length ≤ sizeLine ∧ Q (.ref H2.length) (H2 ++ [.list (vs.take b.toNat)]))
    (ht : ∀ o r, letTemporaryGo value o r = pure () := by intro _ _; rfl) : EW B n env loc (.Subscript value (.Slice Option.none (Option.some upper) Option.none p) pos) H Q := fun A E s ρ QQ hA S L kk => by
  refine wpAny_with_toks S.toks (wpAny_Subscript_list_slice (h A _ s ρ _ hA S L fun o o' H1 ρ1 s1 q vo S1 st1 => wpAny_pure (q A _ s1 ρ1 _ hA S1 (L.step st1) fun u u' H2 ρ2 s2 q2 vu S2 st2 => ?_)) ht)
  obtain ⟨k, vs, b, rfl, hk, rfl, h0, hsz, q⟩ := q2
  obtain ⟨a, e, rfl⟩ := st2.mono vo
  obtain ⟨t, rfl⟩ := vu
  obtain ⟨vs', m, g, r, hl⟩ := S2.list hk e
  refine ⟨a, _, Option.none, Option.some b, rfl, hl, by rw [List.size_toArray, ← r.length]; exact hsz, .none, .int b t, ?_⟩
  rw [slicePick_to _ _ h0]
  have h1 : ∀ b' o, s2.heap.get? b' = some o → ((s2.heap.push { cls := .type "slice", data := .fields #[.none, .int b t, .none] }).push { cls := .type "list", data := .seq (vs'.toArray.toList.take b.toNat).toArray }).get? b' = some o := fun _ _ e => Heap.get?_push_of_some _ (Heap.get?_push_of_some _ e)
  have hn : s2.heap.get? (s2.heap.objs.size + 1) = Option.none := by
    cases q : s2.heap.get? (s2.heap.objs.size + 1) with
    | none => rfl
    | some o => exact absurd (Heap.lt_size q) (Nat.not_lt.mpr (Nat.le_succ _))
  intro htk
  refine kk _ _ _ (ρ2 ++ [s2.heap.objs.size + 1]) _ q ⟨_, by rw [← S2.len]; simp, rfl⟩ (S2.more h1 (by exact htk) hn ?_) ((st1.trans S1 st2).trans S2 (Step.more h1 hn))
  refine ⟨vs'.take b.toNat, 0, ?_, (r.take _).mono⟩
  have := Heap.get?_push_size (s2.heap.push { cls := .type "slice", data := .fields #[.none, .int b t, .none] }) (o := { cls := .type "list", data := .seq (vs'.toArray.toList.take b.toNat).toArray }) rfl
  simpa using this

/-! displays -/
theorem no_new {h : Heap} : h.get? h.objs.size = Option.none := by
  cases q : h.get? h.objs.size with
  | none => rfl
  | some o => exact absurd (Heap.lt_size q) (Nat.lt_irrefl _)

theorem EW.list {elts : List Expr} {pos : Pos} (h : EWs B n env loc elts H fun vs H1 => vs.length ≤ sizeLine ∧ Q (.ref H1.length) (H1 ++ [.list vs])) : EW B n env loc (.List elts pos) H Q := fun A E s ρ QQ hA S L kk => by
  refine List_ (h A E s ρ _ pos hA S L fun vs vs' H1 ρ1 s1 q vv S1 st1 => ?_)
  have hk : ∀ b o, s1.heap.get? b = some o → (s1.heap.push { cls := .type "list", data := .seq vs'.toArray }).get? b = some o := fun _ _ e => Heap.get?_push_of_some _ e
  refine wpAny_newObj_type (kk _ _ _ (ρ1 ++ [s1.heap.objs.size]) _ q.2 ⟨_, by rw [← S1.len]; simp, rfl⟩ (S1.more hk S1.toks no_new ⟨vs', 0, Heap.get?_push_size _ rfl, vv.mono⟩) (st1.trans S1 (Step.more hk no_new))) ?_
  show vs'.toArray.size ≤ sizeLine
  rw [List.size_toArray, ← vv.length]; exact q.1

/-! what changes a list of the ledger -/
theorem upd_keeps {h : Heap} {a : Addr} {f : Obj → Obj} : ∀ b o, b ≠ a → h.get? b = some o → (h.update a f).get? b = some o := fun b o hb e => (Heap.get?_update_other h f (Ne.symm hb)).trans e

structure Wd.There (B : Wd) : Prop where
  c : ∃ o, B.hb.get? B.c = some o
  P : ∃ o, B.hb.get? B.P = some o

theorem SB.upd {ρ H s} (S : SB B ρ H s) (T : B.There) {k : Nat} {a : Addr} {vs' : List Value} {m : Nat} {f : Array Value → Array Value} {ws : List V} {ws' : List Value} (e : ρ[k]? = some a)
    (g : s.heap.get? a = some (listOf vs'.toArray m)) (hf : f vs'.toArray = ws'.toArray) (hw : VRs ρ ws ws') : SB B ρ (H.set k (.list ws)) { s with heap := s.heap.update a (Obj.mapSeq f) } := by
  have hn : B.P ∉ ρ ∧ B.c ∉ ρ := ⟨S.notP T.P, fun h => by obtain ⟨o, e⟩ := T.c; rw [S.fresh _ h] at e; cases e⟩
  refine S.set hn.1 hn.2 e upd_keeps S.toks ?_
  have := Heap.get?_update_self (Obj.mapSeq f) g rfl
  refine ⟨ws', if ws'.toArray.size == vs'.toArray.size then m else m + 1, ?_, hw⟩
  show (s.heap.update a (Obj.mapSeq f)).get? a = _
  rw [this]
  simp only [Obj.mapSeq, hf]

theorem CW.append {k : Nat} {vs : List V} {v : V} (T : B.There) (hk : H[k]? = some (.list vs)) (hsz : vs.length ≤ sizeLine) (q : Q .none (H.set k (.list (vs ++ [v])))) : CW B n (.builtin "list.append") [.ref k, v] H Q := fun A E s ρ vs' QQ hA S hv kk => by
  obtain _ | ⟨⟨a, e, rfl⟩, _ | ⟨vv, _ | _⟩⟩ := hv
  rename_i v'
  obtain ⟨vs', m, g, r, hl⟩ := S.list hk e
  refine call_meets PySem.F.slot_list_append ⟨_, g, rfl⟩ PySem.F.entry_list_append (PySem.F.args_list_append_2 _ _) (PySem.list_append a vs'.toArray m v' (by rw [List.size_toArray, ← r.length]; exact hsz)) ⟨g, ?_⟩
  exact kk _ _ _ ρ _ q rfl (S.upd T e g (ws' := vs' ++ [v']) (by simp) (r.append (.one vv))) (Step.set (List.mem_of_getElem? e) upd_keeps)

theorem CW.extend {k j : Nat} {vs ws : List V} (T : B.There) (hk : H[k]? = some (.list vs)) (hj : H[j]? = some (.list ws)) (hsz : vs.length + ws.length ≤ sizeLine) (q : Q .none (H.set k (.list (vs ++ ws)))) : CW B n (.builtin "list.extend") [.ref k, .ref j] H Q := fun A E s ρ vs' QQ hA S hv kk => by
  obtain _ | ⟨⟨a, e, rfl⟩, _ | ⟨⟨b, e2, rfl⟩, _ | _⟩⟩ := hv
  obtain ⟨vs', m, g, r, hl⟩ := S.list hk e
  obtain ⟨ws', m2, g2, r2, hl2⟩ := S.list hj e2
  have hz : vs'.toArray.size + ws'.toArray.size ≤ sizeLine := by rw [List.size_toArray, List.size_toArray, ← r.length, ← r2.length]; exact hsz
  refine call_meets PySem.F.slot_list_extend ⟨_, g, rfl⟩ PySem.F.entry_list_extend (PySem.F.args_list_extend_2 _ _) (AutoSeq1.list_extend_list_list_0 a vs'.toArray m b ws'.toArray m2 (extend_door hz) (Nat.le_trans (Nat.le_add_right _ _) hz) (Nat.le_succ_of_le hz)) ⟨g, g2, ?_⟩
  exact kk _ _ _ ρ _ q rfl (S.upd T e g (ws' := vs' ++ ws') (by simp) (r.append r2)) (Step.set (List.mem_of_getElem? e) upd_keeps)

theorem fits_of {i : Int} (h0 : 0 ≤ i) (h1 : i < 2 ^ 63) : Builtin.List.listFitsIndex i = true := PySem.fitsIndex_of h0 h1

theorem CW.insert {k : Nat} {vs : List V} {v : V} {i : Int} (T : B.There) (hk : H[k]? = some (.list vs)) (h0 : 0 ≤ i) (hi : i ≤ vs.length) (hsz : vs.length ≤ sizeLine) (q : Q .none (H.set k (.list (vs.take i.toNat ++ v :: vs.drop i.toNat)))) :
    CW B n (.builtin "list.insert") [.ref k, .int i, v] H Q := fun A E s ρ vs' QQ hA S hv kk => by
  obtain _ | ⟨⟨a, e, rfl⟩, _ | ⟨⟨u, rfl⟩, _ | ⟨vv, _ | _⟩⟩⟩ := hv
  rename_i v'
  obtain ⟨vs', m, g, r, hl⟩ := S.list hk e
  have hz : vs.length < 2 ^ 63 := by have : sizeLine = 16777216 := rfl; omega
  refine call_meets PySem.F.slot_list_insert ⟨_, g, rfl⟩ PySem.F.entry_list_insert (PySem.F.args_list_insert_3 _ _ _) (AutoSeq1.list_insert_list_int_val_1 a vs'.toArray m i u v' (by rw [fits_of h0 (by omega)]; decide) (by rw [List.size_toArray, ← r.length]; exact hsz)) ⟨g, ?_⟩
  refine kk _ _ _ ρ _ q rfl (S.upd T e g (ws' := vs'.take i.toNat ++ v' :: vs'.drop i.toNat) ?_ ((r.take _).append (.cons vv (r.drop _)))) (Step.set (List.mem_of_getElem? e) upd_keeps)
  have h1 : ¬ i < 0 := by omega
  have h2 : Min.min i.toNat vs'.length = i.toNat := by rw [← r.length]; omega
  simp only [h1, if_false, List.size_toArray, h2]
  apply Array.toList_inj.mp
  simp
  rw [List.take_of_length_le (by simp)]

theorem CW.pop {k : Nat} {vs : List V} {v : V} {i : Int} (T : B.There) (hk : H[k]? = some (.list vs)) (h0 : 0 ≤ i) (hv : vs[i.toNat]? = some v) (hsz : vs.length ≤ sizeLine) (q : Q v (H.set k (.list (vs.eraseIdx i.toNat)))) :
    CW B n (.builtin "list.pop") [.ref k, .int i] H Q := fun A E s ρ vs' QQ hA S hvs kk => by
  obtain _ | ⟨⟨a, e, rfl⟩, _ | ⟨⟨u, rfl⟩, _ | _⟩⟩ := hvs
  obtain ⟨vs', m, g, r, hl⟩ := S.list hk e
  obtain ⟨v', hx, vv⟩ := r.get hv
  have hlt : i.toNat < vs.length := (List.getElem?_eq_some_iff.mp hv).1
  have hz : vs.length < 2 ^ 63 := by have : sizeLine = 16777216 := rfl; omega
  have hs : seqIndex? i vs'.toArray.size = some i.toNat := by
    unfold seqIndex?
    have h1 : ¬ i < 0 := by omega
    have h2 : i < vs'.length := by rw [← r.length]; omega
    simp [h1, h0, h2]
  refine call_meets PySem.F.slot_list_pop ⟨_, g, rfl⟩ PySem.F.entry_list_pop (PySem.F.args_list_pop_2 _ _) (MeetsSeq.list_pop_at a vs'.toArray m i u i.toNat v' (fits_of h0 (by omega)) hs (by simpa using hx) (by rw [List.size_toArray, ← r.length]; exact hsz)) ⟨g, ?_⟩
  refine kk _ _ _ ρ _ q vv (S.upd T e g (ws' := vs'.eraseIdx i.toNat) ?_ (r.erase _)) (Step.set (List.mem_of_getElem? e) upd_keeps)
  have : i.toNat < vs'.length := by rw [← r.length]; exact hlt
  simp [Array.eraseIdxIfInBounds, this]

end
end Mine

end
section
open PySem PySem.W PySem.Calls PyProof.Rows
set_option maxRecDepth 100000
namespace Mine
section
variable {B : Wd} {n : Nat} {env : Env} {loc : Loc} {H : List O} {Q : V → List O → Prop}

theorem PW2.inl {i : Int} {k : Nat} {vs : List V} {is : List Int} (hk : H[k]? = some (.list vs)) (hi : intsOf vs = some is) (q : Q (.bool (is.any (· == i))) H) : PW2 B n (compareOp .In) (.int i) (.ref k) H Q := fun A E s ρ a' b' QQ hA S va vb kk => by
  obtain ⟨t, rfl⟩ := va; obtain ⟨a, e, rfl⟩ := vb
  obtain ⟨vs', m, g, r, hl⟩ := S.list hk e
  exact in_list_ints hl (r.intsOf hi) (kk _ _ _ ρ _ q rfl S Step.refl)

/-- a list against the empty one -/
theorem PW2.eqNil {j k : Nat} {vs : List V} (hj : H[j]? = some (.list vs)) (hk : H[k]? = some (.list [])) (q : Q (.bool vs.isEmpty) H) : PW2 B n (compareOp .Eq) (.ref j) (.ref k) H Q := fun A E s ρ a' b' QQ hA S va vb kk => by
  obtain ⟨a, e, rfl⟩ := va; obtain ⟨b, e2, rfl⟩ := vb
  obtain ⟨vs', m, g, r, hl⟩ := S.list hj e
  obtain ⟨ws', m2, g2, r2, hl2⟩ := S.list hk e2
  cases r2
  cases vs with
  | nil =>
    cases r
    exact SeqAt.eq_listAt (e := fun _ => true) hl hl2 rfl hA.units (fun j h1 h2 => absurd h1 (Nat.not_lt_zero _)) (kk _ _ _ ρ _ q rfl S Step.refl)
  | cons v vs =>
    cases r
    exact SeqAt.eq_list_lengthsAt hl hl2 (by simp) hA.units (kk _ _ _ ρ _ q rfl S Step.refl)

/-- a list of ints of the world that was -/
structure XL (B : Wd) (a : Addr) (is : List Int) : Prop where
  l : ∃ vs, B.hb.IsList a vs.toArray ∧ IntsAre vs is
  p : a ≠ B.P

theorem XL.at {a is ρ H s} (X : XL B a is) (S : SB B ρ H s) : ∃ vs, s.heap.IsList a vs.toArray ∧ IntsAre vs is := by
  obtain ⟨⟨vs, hl, hi⟩, hp⟩ := X
  exact ⟨vs, hl.at fun o e => S.keep a o e (np hp), hi⟩

theorem PW2.neNilX {a : Addr} {k : Nat} {is : List Int} (X : XL B a is) (hk : H[k]? = some (.list [])) (q : Q (.bool (!is.isEmpty)) H) : PW2 B n (compareOp .NotEq) (.ext a) (.ref k) H Q := fun A E s ρ a' b' QQ hA S va vb kk => by
  obtain rfl := va; obtain ⟨b, e2, rfl⟩ := vb
  obtain ⟨vs, hl, hi⟩ := X.at S
  obtain ⟨ws', m2, g2, r2, hl2⟩ := S.list hk e2
  cases r2
  refine ne_intsK hl hi hl2 .nil (by have := hA.u; rw [cLine_is]; omega) (kk (.bool (!decide (is = []))) _ H ρ _ ?_ rfl S Step.refl)
  cases is <;> simpa using q

/-- the first items of such a list, as a list of one's own -/
theorem EW.sliceX {value upper : Expr} {p pos : Pos}
    (h : EW B n env loc value H fun o H1 => EW B n env loc upper H1 fun u H2 => ∃ a is b, o = .ext a ∧ XL B a is ∧ u = .int b ∧ 0 ≤ b ∧ is.length ≤ sizeLine ∧ Q (.ref H2.length) (H2 ++ [.list ((is.take b.toNat).map V.int)]))
    (ht : ∀ o r, letTemporaryGo value o r = pure () := by intro _ _; rfl) : EW B n env loc (.Subscript value (.Slice Option.none (Option.some upper) Option.none p) pos) H Q := fun A E s ρ QQ hA S L kk => by
  refine wpAny_with_toks S.toks (wpAny_Subscript_list_slice (h A _ s ρ _ hA S L fun o o' H1 ρ1 s1 q vo S1 st1 => wpAny_pure (q A _ s1 ρ1 _ hA S1 (L.step st1) fun u u' H2 ρ2 s2 q2 vu S2 st2 => ?_)) ht)
  obtain ⟨a, is, b, rfl, X, rfl, h0, hsz, q⟩ := q2
  obtain rfl := vo
  obtain ⟨t, rfl⟩ := vu
  obtain ⟨vs', hl, hi⟩ := X.at S2
  refine ⟨a, _, Option.none, Option.some b, rfl, hl, by rw [List.size_toArray, hi.length]; exact hsz, .none, .int b t, ?_⟩
  rw [slicePick_to _ _ h0]
  have h1 : ∀ b' o, s2.heap.get? b' = some o → ((s2.heap.push { cls := .type "slice", data := .fields #[.none, .int b t, .none] }).push { cls := .type "list", data := .seq (vs'.toArray.toList.take b.toNat).toArray }).get? b' = some o := fun _ _ e => Heap.get?_push_of_some _ (Heap.get?_push_of_some _ e)
  have hn : s2.heap.get? (s2.heap.objs.size + 1) = Option.none := by
    cases q : s2.heap.get? (s2.heap.objs.size + 1) with
    | none => rfl
    | some o => exact absurd (Heap.lt_size q) (Nat.not_lt.mpr (Nat.le_succ _))
  intro htk
  refine kk _ _ _ (ρ2 ++ [s2.heap.objs.size + 1]) _ q ⟨_, by rw [← S2.len]; simp, rfl⟩ (S2.more h1 (by exact htk) hn ?_) ((st1.trans S1 st2).trans S2 (Step.more h1 hn))
  refine ⟨vs'.take b.toNat, 0, ?_, ?_⟩
  · have := Heap.get?_push_size (s2.heap.push { cls := .type "slice", data := .fields #[.none, .int b t, .none] }) (o := { cls := .type "list", data := .seq (vs'.toArray.toList.take b.toNat).toArray }) rfl
    simpa using this
  · have key : ∀ (ρ : List Addr) (vs : List Value) (is : List Int), IntsAre vs is → ∀ j, VRs ρ ((is.take j).map V.int) (vs.take j) := by
      intro ρ vs is h
      induction h with
      | nil => intro j; simp; exact .nil
      | cons i t _ ih =>
        intro j
        cases j with
        | zero => exact .nil
        | succ j => exact .cons ⟨t, rfl⟩ (ih j)
    exact key _ _ _ hi _

/-- the texts of a list -/
def strsOf : List V → Option (List Str)
  | [] => some []
  | .str x :: r => (strsOf r).map (x :: ·)
  | _ => Option.none
theorem VRs.strsOf {ρ : List Addr} {vs vs'} (h : VRs ρ vs vs') : ∀ {xs}, Mine.strsOf vs = some xs → ∃ l : List (Str × Tok), strValues l = vs' ∧ l.map (·.1) = xs := by
  induction h with
  | nil => intro xs e; cases e; exact ⟨[], rfl, rfl⟩
  | @cons v v' vs vs' h _ ih =>
    intro xs e
    cases v with
    | str x =>
      simp only [Mine.strsOf, Option.map_eq_some_iff] at e
      obtain ⟨ys, e, rfl⟩ := e
      obtain ⟨l, rfl, rfl⟩ := ih e
      obtain ⟨t, rfl⟩ := h
      exact ⟨(x, t) :: l, rfl, rfl⟩
    | _ => cases e
theorem CW.join {x : Str} {k : Nat} {vs : List V} {xs : List Str} (hk : H[k]? = some (.list vs)) (hx : strsOf vs = some xs) (hok : JoinOk x xs = true) (q : Q (.str (Txt.join x xs)) H) :
    CW B n (.builtin "str.join") [.str x, .ref k] H Q := fun A E s ρ vs' QQ hA S hv kk => by
  obtain _ | ⟨⟨t, rfl⟩, _ | ⟨⟨a, e, rfl⟩, _ | _⟩⟩ := hv
  obtain ⟨vs', m, g, r, hl⟩ := S.list hk e
  obtain ⟨l, rfl, hl2⟩ := r.strsOf hx
  exact wpAny_with_toks S.toks (SC.join hl hl2 hok fun t' tk ht => kk _ _ _ ρ _ q ⟨t', rfl⟩ (S.tok ht) Step.tok)

/-- x.replace(y, z) with written texts -/
theorem EW.replace {o : Expr} {y z : Str} {apos pos p1 p2 : Pos} {k1 k2 : Nat} (h1 : 1 ≤ B.t0)
    (h : EW B n env loc o H fun ov H1 => ∃ x, ov = .str x ∧ (y == z) = false ∧ x.length + (x.length + 1) * z.length ≤ 16777216 ∧ Q (.str (Txt.replace x y z)) H1)
    (hbase : attributeBase o (Str.ofString "replace") env (eval o env) = eval o env := by rfl)
    (hline : (apos.endLine == pos.line) = true := by rfl) :
    EW B n env loc (.Call (.Attribute o (Str.ofString "replace") apos) [.Constant (.str y) k1 p1, .Constant (.str z) k2 p2] [] pos) H Q := fun A E s ρ QQ hA S L kk => by
  refine wpAny_Call_method hbase rfl hline PySem.F.plainAttrs_str PySem.F.slot_str_replace PySem.F.type_str_replace (h A E s ρ _ hA S L fun ov ov' H1 ρ1 s1 q vo S1 st1 => ?_)
  obtain ⟨x, rfl, hyz, hsz, q⟩ := q
  obtain ⟨t, rfl⟩ := vo
  refine ⟨typeIs_str _ _ _, fun a e => (by cases e), ?_⟩
  refine callWith_builtin rfl ?_
  refine evalArgs_plain (x := eval (.Constant (.str y) k1 p1) env) (rest := [(false, eval (.Constant (.str z) k2 p2) env)]) (spliced_cons (Constant_str (spliced_cons (Constant_str (spliced_nil ?_)))))
  refine wpAny_with_toks (n := B.t0) (by show B.t0 ≤ s1.toks + 1 + 1; have := S1.toks; omega) (SC.replace (Nat.ne_of_gt (Nat.lt_of_lt_of_le h1 S1.toks)) (Nat.succ_ne_zero _) (Nat.ne_of_lt (Nat.lt_succ_self _)) hyz hsz fun t' tk ht => ?_)
  exact kk _ _ _ ρ1 _ q ⟨t', rfl⟩ (S1.tok ht) (st1.trans S1 Step.tok)

/-! the table -/
theorem EW.dict {keys : List (Option Expr)} {values : List Expr} {pos : Pos} {D : List (PyData × PyData)} (hm : ∃ o, B.hb.get? cStatics = some o ∧ cStatics ≠ B.P) (hD : litPairs keys values = some D) (hs : strKeyed D = true) (hn : (strKeysOf D).Nodup)
    (hall : keys.all (·.isSome) = true) (hl : keys.length = values.length) (h0 : keys ≠ []) (hlen : keys.length ≤ 15) (q : Q (.ref H.length) (H ++ [.dict D])) : EW B n env loc (.Dict keys values pos) H Q := fun A E s ρ QQ hA S L kk => by
  refine wpAny_with_toks S.toks (Dict_lits_str hD hs hn hall hl h0 hlen fun a o h₁ tk hge ho ht hk htk => ?_)
  have hna : s.heap.get? a = Option.none := by
    cases q : s.heap.get? a with
    | none => rfl
    | some o => exact absurd (Heap.lt_size q) (Nat.not_lt.mpr hge)
  obtain ⟨kvs, hd, hf⟩ := ht
  obtain ⟨o', ho', hP⟩ := hm
  have hlt : cStatics < a := Nat.lt_of_lt_of_le (Heap.lt_size (S.keep _ _ ho' (np hP))) hge
  have hne : (a == sysModules) = false := by
    rw [beq_eq_false_iff_ne]; rintro rfl
    exact absurd hlt (by decide)
  exact kk _ _ _ (ρ ++ [a]) _ q ⟨_, by rw [← S.len]; simp, rfl⟩ (S.more hk htk hna (TabAt.ofObj hne ho hd hf)) (Step.more hk hna)

/-- what the table says of a text -/
def getD (D : List (PyData × PyData)) (x d : Str) : Str := match PySem.Spec.lookup (.str x) D with
  | some (.str y) => y
  | _ => d
theorem CW.get {k : Nat} {D : List (PyData × PyData)} {x d : Str} (hk : H[k]? = some (.dict D)) (hD : ∀ y, PySem.Spec.lookup (.str x) D = some y → ∃ z, y = .str z) (q : Q (.str (getD D x d)) H) : CW B n (.builtin "dict.get") [.ref k, .str x, .str d] H Q := fun A E s ρ vs' QQ hA S hv kk => by
  obtain _ | ⟨⟨a, e, rfl⟩, _ | ⟨⟨t, rfl⟩, _ | ⟨⟨u, rfl⟩, _ | _⟩⟩⟩ := hv
  have T : StrTab B.prog B.w s.heap a D := S.objs k _ a hk e
  refine call_get2_strTab T (PyProof.V.Flat.str d u) fun v hv => ?_
  have : ∃ t, v = .str (getD D x d) t := by
    unfold getD
    cases hl : PySem.Spec.lookup (.str x) D with
    | none => rw [hl] at hv; exact hv.str_inv
    | some y =>
      obtain ⟨z, rfl⟩ := hD y hl
      rw [hl] at hv; exact hv.str_inv
  exact kk _ _ _ ρ _ q this (S.tok S.ltok) Step.tok

end
end Mine

end
section
open PySem PySem.W PySem.Calls PyProof.Rows
set_option maxRecDepth 100000
namespace Mine

def upd (loc : Loc) (x : Str) (v : V) : Loc := fun y => if y = x then some v else loc y

/-- how a statement ends -/
inductive Fl where
  | next | brk | cont
  | ret (v : V)

def FR (ρ : List Addr) : Fl → Flow → Prop
  | .next, f => f = .next
  | .brk, f => f = .brk
  | .cont, f => f = .cont
  | .ret v, f => ∃ v', f = .ret v' ∧ VR ρ v v'

def Own (env : Env) (a : Addr) : Prop := a = env.locals ∨ ∃ x, env.cells.lookup x = some a

/-- a step that may change the places X -/
structure StepX (B : Wd) (X : Addr → Prop) (ρ ρ' : List Addr) (s s' : Shared) : Prop where
  ext : ∃ more, ρ' = ρ ++ more ∧ ∀ a ∈ more, s.heap.get? a = Option.none
  keep : ∀ a o, s.heap.get? a = some o → a ∉ ρ → B.NP a → ¬ X a → s'.heap.get? a = some o

section
variable {B : Wd} {X : Addr → Prop}
theorem Step.toX {ρ ρ' : List Addr} {s s' : Shared} (x : Step B ρ ρ' s s') : StepX B X ρ ρ' s s' := ⟨x.ext, fun a o e n p _ => x.keep a o e n p⟩
theorem StepX.wide {Y : Addr → Prop} {ρ ρ' : List Addr} {s s' : Shared} (x : StepX B X ρ ρ' s s') (h : ∀ a, X a → Y a) : StepX B Y ρ ρ' s s' := ⟨x.ext, fun a o e n p q => x.keep a o e n p fun hx => q (h a hx)⟩

theorem StepX.trans {ρ ρ' ρ'' : List Addr} {H' : List O} {s s' s'' : Shared} (x : StepX B X ρ ρ' s s') (S : SB B ρ' H' s') (hX : ∀ a, X a → ∃ o, s'.heap.get? a = some o) (y : StepX B X ρ' ρ'' s' s'') : StepX B X ρ ρ'' s s'' := by
  obtain ⟨⟨m, rfl, hm⟩, k⟩ := x
  obtain ⟨⟨m', rfl, hm'⟩, k'⟩ := y
  refine ⟨⟨m ++ m', by simp, fun a ha => ?_⟩, fun a o e na nP nX => ?_⟩
  · rcases List.mem_append.mp ha with h | h
    · exact hm a h
    · cases q : s.heap.get? a with
      | none => rfl
      | some o =>
        exfalso
        have hn := hm' a h
        by_cases hr : a ∈ ρ
        · obtain ⟨ob, e⟩ := S.mem (List.mem_append_left _ hr); rw [hn] at e; cases e
        · by_cases hP : a = B.P
          · subst hP; obtain ⟨ob, e⟩ := S.tab.there; rw [hn] at e; cases e
          · by_cases hx : X a
            · obtain ⟨ob, e⟩ := hX a hx; rw [hn] at e; cases e
            · rw [k a o q hr (np hP) hx] at hn; cases hn
  · refine k' a o (k a o e na nP nX) (fun h => ?_) nP nX
    rcases List.mem_append.mp h with h | h
    · exact na h
    · rw [hm a h] at e; cases e

theorem StepX.drop {ρ ρ₁ more : List Addr} {s s' : Shared} (x : StepX B X ρ ((ρ ++ ρ₁) ++ more) s s') : StepX B X ρ (ρ ++ ρ₁) s s' := by
  obtain ⟨⟨m, e, hm⟩, k⟩ := x
  rw [List.append_assoc] at e
  have e := List.append_cancel_left e
  subst e
  exact ⟨⟨ρ₁, rfl, fun a ha => hm a (List.mem_append_left _ ha)⟩, k⟩

theorem LocR.owned {env loc ρ h} (L : LocR B env loc ρ h) : ∀ a, Own env a → ∃ o, h.get? a = some o := by
  rintro a (rfl | ⟨x, e⟩)
  · obtain ⟨m, ⟨o, _, _, e, _⟩, _⟩ := L.ns; exact ⟨o, e⟩
  · obtain ⟨_, _, _, _, v, o, e, _⟩ := L.cells x a e; exact ⟨o, e⟩
/-- the frame's own things stay -/
theorem LocR.at {env loc ρ} {h h' : Heap} (L : LocR B env loc ρ h) (hk : ∀ a o, Own env a → h.get? a = some o → h'.get? a = some o) : LocR B env loc ρ h' := by
  obtain ⟨m, hn, hv⟩ := L.ns
  have cell : ∀ x c v, env.cells.lookup x = some c → h.IsCell c v → h'.IsCell c v := fun x c v e ⟨o, ho, hd⟩ => ⟨o, hk c o (.inr ⟨x, e⟩) ho, hd⟩
  refine ⟨L.kind, L.glob, L.bu, L.nL, L.nP, L.nB, fun x c e => ?_, L.apart, m, hn.at' fun o e => hk _ o (.inl rfl) e, fun x v e => ?_⟩
  · obtain ⟨h1, h2, h3, h4, v, hc⟩ := L.cells x c e
    exact ⟨h1, h2, h3, h4, v, cell x c v e hc⟩
  · rcases hv x v e with ⟨a, v', b, c⟩ | ⟨a, cc, v', b, c, d⟩
    · exact .inl ⟨a, v', b, c⟩
    · exact .inr ⟨a, cc, v', b, cell _ _ _ b c, d⟩

/-- some names are forgotten -/
theorem LocR.less {env loc loc' ρ} {h : Heap} (L : LocR B env loc ρ h) (hl : ∀ x v, loc' x = some v → loc x = some v) : LocR B env loc' ρ h := by
  obtain ⟨m, hn, hv⟩ := L.ns
  exact ⟨L.kind, L.glob, L.bu, L.nL, L.nP, L.nB, L.cells, L.apart, m, hn, fun x v e => hv x v (hl x v e)⟩

def LocClosed (loc : Loc) (n : Nat) : Prop := ∀ x k, loc x = some (.ref k) → k < n

theorem LocR.drop {env loc ρ more} {h : Heap} (L : LocR B env loc (ρ ++ more) h) (hc : LocClosed loc ρ.length) : LocR B env loc ρ h := by
  obtain ⟨m, hn, hv⟩ := L.ns
  refine ⟨L.kind, L.glob, L.bu, fun h => L.nL (List.mem_append_left _ h), L.nP, L.nB, fun x c e => ?_, L.apart, m, hn, fun x v e => ?_⟩
  · obtain ⟨h1, h2⟩ := L.cells x c e
    exact ⟨fun h => h1 (List.mem_append_left _ h), h2⟩
  · have hb : ∀ v', VR (ρ ++ more) v v' → VR ρ v v' := fun v' r => r.back fun k ek => hc x k (ek ▸ e)
    rcases hv x v e with ⟨a, v', b, c⟩ | ⟨a, cc, v', b, c, d⟩
    · exact .inl ⟨a, v', b, hb _ c⟩
    · exact .inr ⟨a, cc, v', b, c, hb _ d⟩

theorem LocR.setL {env loc ρ} {h h' : Heap} {m} {x : Str} {v : V} {v' : Value} (L : LocR B env loc ρ h) (hm : h.Ns env.locals m) (hl : ∀ x v, loc x = some v →
    (env.kindOf x = some .local ∧ ∃ v', m x = some v' ∧ VR ρ v v') ∨
    ((env.kindOf x = some .cell ∨ env.kindOf x = some .free) ∧ ∃ c v', env.cells.lookup x = some c ∧ h.IsCell c (some v') ∧ VR ρ v v')) (hk : env.kindOf x = some .local)
    (hn : h'.Ns env.locals (fun y => if y = x then some v' else m y)) (hs : Heap.SameBut env.locals h h') (hv : VR ρ v v') : LocR B env (upd loc x v) ρ h' := by
  refine ⟨L.kind, L.glob, L.bu, L.nL, L.nP, L.nB, fun y c e => ?_, L.apart, _, hn, fun y u e => ?_⟩
  · obtain ⟨h1, h2, h3, h4, u, hc⟩ := L.cells y c e
    exact ⟨h1, h2, h3, h4, u, hc.sameBut hs h3⟩
  · unfold upd at e
    by_cases hy : y = x
    · subst hy
      rw [if_pos rfl] at e; cases e
      exact .inl ⟨hk, v', if_pos rfl, hv⟩
    · rw [if_neg hy] at e
      rcases hl y u e with ⟨a, u', b, c⟩ | ⟨a, cc, u', b, c, d⟩
      · exact .inl ⟨a, u', (if_neg hy).trans b, c⟩
      · exact .inr ⟨a, cc, u', b, c.sameBut hs (L.cells y cc b).2.2.1, d⟩

theorem LocR.setC {env loc ρ} {h h' : Heap} {x : Str} {c : Addr} {v : V} {v' : Value} (L : LocR B env loc ρ h) (hk : env.kindOf x = some .cell) (hc : env.cells.lookup x = some c)
    (hn : h'.IsCell c (some v')) (hs : Heap.SameBut c h h') (hv : VR ρ v v') : LocR B env (upd loc x v) ρ h' := by
  obtain ⟨m, hm, hl⟩ := L.ns
  have hcL := (L.cells x c hc).2.2.1
  refine ⟨L.kind, L.glob, L.bu, L.nL, L.nP, L.nB, fun y d e => ?_, L.apart, m, hm.sameBut hs (Ne.symm hcL), fun y u e => ?_⟩
  · obtain ⟨h1, h2, h3, h4, u, hd⟩ := L.cells y d e
    by_cases q : d = c
    · subst q; exact ⟨h1, h2, h3, h4, _, hn⟩
    · exact ⟨h1, h2, h3, h4, u, hd.sameBut hs q⟩
  · unfold upd at e
    by_cases hy : y = x
    · subst hy
      rw [if_pos rfl] at e; cases e
      exact .inr ⟨.inl hk, c, v', hc, hn, hv⟩
    · rw [if_neg hy] at e
      rcases hl y u e with ⟨a, u', b, d⟩ | ⟨a, cc, u', b, d, f⟩
      · exact .inl ⟨a, u', b, d⟩
      · exact .inr ⟨a, cc, u', b, d.sameBut hs (fun q => hy (L.apart y x c (q ▸ b) hc)), f⟩

/-- the heap is changed at a place of nobody's -/
theorem SB.other {ρ H s} (S : SB B ρ H s) (T : B.There) {h' : Heap} {tk : Nat} {X : Addr → Prop} (hx : ∀ a, X a → a ∉ ρ ∧ B.hb.get? a = none) (hk : ∀ b o, ¬ X b → s.heap.get? b = some o → h'.get? b = some o) (ht : B.t0 ≤ tk) :
    SB B ρ H { s with heap := h', toks := tk } := by
  have nB : ∀ a o, B.hb.get? a = some o → ¬ X a := fun a o e h => by rw [(hx a h).2] at e; cases e
  refine ⟨fun a o e n => hk _ _ (nB a o e) (S.keep a o e n), S.fresh, S.len, S.nodup, fun k o a e e' => ?_, ?_, S.gens, S.os, ht⟩
  · have := (S.objs k o a e e').at (more := []) (h' := h') fun ob e => hk _ _ (fun h => (hx a h).1 (List.mem_of_getElem? e')) e
    simpa using this
  · obtain ⟨oc, ec⟩ := T.c
    obtain ⟨oP, eP⟩ := T.P
    obtain ⟨ps, x, y⟩ := S.tab
    have n1 := nB _ _ ec
    have n2 := nB _ _ eP
    refine ⟨ps, ?_, ?_⟩
    · obtain ⟨o, vs, file, tf, flags, tg, inF, text, tt, op, a, r1, r2, r3, r4, r5, r6, b, r⟩ := x
      exact ⟨o, vs, file, tf, flags, tg, inF, text, tt, op, hk _ _ n1 a, r1, r2, r3, r4, r5, r6, hk _ _ n2 b, r⟩
    · obtain ⟨⟨o, vs, a, r⟩, t⟩ := y
      exact ⟨⟨o, vs, hk _ _ n1 a, r⟩, hk _ _ n2 t⟩
end

section
variable (B : Wd) (n : Nat) (env : Env)
/-- a statement's weakest precondition -/
def FW (t : Sem Flow) (loc : Loc) (H : List O) (Q : Fl → Loc → List O → Prop) : Prop :=
  ∀ (A : Around) (E : Value → Shared → Prop) (s : Shared) (ρ : List Addr) (QQ : Flow → Shared → Prop), AOk n A → SB B ρ H s → LocR B env loc ρ s.heap →
    (∀ fl fl' loc' H' ρ' s', Q fl loc' H' → FR ρ' fl fl' → SB B ρ' H' s' → LocR B env loc' ρ' s'.heap → StepX B (Own env) ρ ρ' s s' → QQ fl' s') → wpAny B.M A t QQ E s
/-- a store -/
def AW (tgt : Expr) (v : V) (loc : Loc) (H : List O) (Q : Loc → Prop) : Prop :=
  ∀ (A : Around) (E : Value → Shared → Prop) (s : Shared) (ρ : List Addr) (v' : Value) (QQ : Unit → Shared → Prop), AOk n A → SB B ρ H s → LocR B env loc ρ s.heap → VR ρ v v' →
    (∀ loc' s', Q loc' → SB B ρ H s' → LocR B env loc' ρ s'.heap → StepX B (· = env.locals) ρ ρ s s' → QQ () s') → wpAny B.M A (assign tgt env v') QQ E s
end

section
variable {B : Wd} {n : Nat} {env : Env} {loc : Loc} {H : List O} {Q : Fl → Loc → List O → Prop}

theorem FW.mono {t : Sem Flow} {Q' : Fl → Loc → List O → Prop} (h : FW B n env t loc H Q) (hq : ∀ f l H', Q f l H' → Q' f l H') : FW B n env t loc H Q' :=
  fun A E s ρ QQ hA S L k => h A E s ρ QQ hA S L fun f f' l H' ρ' s' q => k f f' l H' ρ' s' (hq _ _ _ q)

theorem SW.nil (q : Q .next loc H) : FW B n env (execs [] env) loc H Q := fun A E s ρ QQ hA S L kk => wpAny_execs_nil (kk .next .next _ _ ρ s q rfl S L Step.refl.toX)

theorem SW.cons {st : Stmt} {rest : List Stmt} (h : FW B n env (exec st env) loc H fun f loc' H' => match f with | .next => FW B n env (execs rest env) loc' H' Q | f => Q f loc' H') :
    FW B n env (execs (st :: rest) env) loc H Q := fun A E s ρ QQ hA S L kk => by
  refine wpAny_execs_cons (h A E s ρ _ hA S L fun f f' loc' H' ρ' s' q r S' L' st' => ?_)
  cases f with
  | next =>
    obtain rfl := r
    exact q A E s' ρ' QQ hA S' L' fun f2 f2' l2 H2 ρ2 s2 q2 r2 S2 L2 st2 => kk _ _ _ _ _ _ q2 r2 S2 L2 (st'.trans S' L'.owned st2)
  | brk => obtain rfl := r; exact kk _ _ _ _ _ _ q rfl S' L' st'
  | cont => obtain rfl := r; exact kk _ _ _ _ _ _ q rfl S' L' st'
  | ret v => obtain ⟨v', rfl, hv⟩ := r; exact kk _ _ _ _ _ _ q ⟨v', rfl, hv⟩ S' L' st'

theorem wpAny_storeL {A : Around} {E : Value → Shared → Prop} {s : Shared} {ρ : List Addr} {x : Str} {v : V} {v' : Value} {QQ : Unit → Shared → Prop} (T : B.There) (S : SB B ρ H s) (L : LocR B env loc ρ s.heap) (hv : VR ρ v v')
    (hk : env.kindOf x = some .local) (h : ∀ s', SB B ρ H s' → LocR B env (upd loc x v) ρ s'.heap → StepX B (· = env.locals) ρ ρ s s' → QQ () s') : wpAny B.M A (storeName env x v') QQ E s := by
  obtain ⟨m, hm, hl⟩ := L.ns
  refine wpAny_storeName_local hk hm (fun h' hn hs => h _ (S.other T (X := (· = env.locals)) (fun a e => e ▸ ⟨L.nL, L.nB⟩) (fun b o nb e => hs.extBut b o nb e) (by have := S.toks; omega)) (L.setL hm hl hk hn hs hv)
    ⟨⟨[], by simp, by simp⟩, fun a o e _ _ nx => hs.extBut a o nx e⟩) ?_
  rw [L.kind]; rfl
theorem wpAny_storeC {A : Around} {E : Value → Shared → Prop} {s : Shared} {ρ : List Addr} {x : Str} {c : Addr} {v : V} {v' : Value} {QQ : Unit → Shared → Prop} (T : B.There) (S : SB B ρ H s) (L : LocR B env loc ρ s.heap) (hv : VR ρ v v')
    (hk : env.kindOf x = some .cell) (hc : env.cells.lookup x = some c) (h : ∀ s', SB B ρ H s' → LocR B env (upd loc x v) ρ s'.heap → StepX B (Own env) ρ ρ s s' → QQ () s') : wpAny B.M A (storeName env x v') QQ E s := by
  obtain ⟨h1, h2, h3, h4, u, hcc⟩ := L.cells x c hc
  refine wpAny_storeName_cell L.kind hk hc hcc (fun h' hn hs => h _ (S.other T (X := (· = c)) (fun a e => e ▸ ⟨h1, h4⟩) (fun b o nb e => hs.extBut b o nb e) S.toks) (L.setC hk hc hn hs hv)
    ⟨⟨[], by simp, by simp⟩, fun a o e _ _ nx => hs.extBut a o (fun q => nx (.inr ⟨x, q ▸ hc⟩)) e⟩)

theorem ST.assign {x : Str} {p pos : Pos} {value : Expr} (T : B.There) (h : EW B n env loc value H fun v H1 => Q .next (upd loc x v) H1) (hk : env.kindOf x = some .local := by rfl)
    (hs : swapsWith value (some (.Name x p)) pos.line env = pure false := by rfl) : FW B n env (exec (.Assign [.Name x p] value pos) env) loc H Q := fun A E s ρ QQ hA S L kk =>
  wpAny_Assign_Name (h A E s ρ _ hA S L fun v v' H1 ρ1 s1 q vv S1 st1 => wpAny_storeL T S1 (L.step st1) vv hk fun s2 S2 L2 st2 => kk _ _ _ _ ρ1 s2 q rfl S2 L2 (st1.toX.trans S1 (L.step st1).owned (st2.wide fun a e => .inl e))) hs
theorem ST.assignC {x : Str} {p pos : Pos} {value : Expr} {c : Addr} (T : B.There) (h : EW B n env loc value H fun v H1 => Q .next (upd loc x v) H1) (hk : env.kindOf x = some .cell := by rfl)
    (hc : env.cells.lookup x = some c := by rfl)
    (hs : swapsWith value (some (.Name x p)) pos.line env = pure false := by rfl) : FW B n env (exec (.Assign [.Name x p] value pos) env) loc H Q := fun A E s ρ QQ hA S L kk =>
  wpAny_Assign_Name (h A E s ρ _ hA S L fun v v' H1 ρ1 s1 q vv S1 st1 => wpAny_storeC T S1 (L.step st1) vv hk hc fun s2 S2 L2 st2 => kk _ _ _ _ ρ1 s2 q rfl S2 L2 (st1.toX.trans S1 (L.step st1).owned st2)) hs

theorem ST.ret {e : Expr} {pos : Pos} (h : EW B n env loc e H fun v H1 => Q (.ret v) loc H1) : FW B n env (exec (.Return (some e) pos) env) loc H Q := fun A E s ρ QQ hA S L kk =>
  wpAny_Return_some (h A E s ρ _ hA S L fun v v' H1 ρ1 s1 q vv S1 st1 => kk (.ret v) _ loc H1 ρ1 s1 q ⟨v', rfl, vv⟩ S1 (L.step st1) st1.toX)

theorem ST.brk {pos : Pos} (q : Q .brk loc H) : FW B n env (exec (.Break pos) env) loc H Q := fun A E s ρ QQ hA S L kk => wpAny_Break (kk .brk _ _ _ ρ s q rfl S L Step.refl.toX)

theorem ST.ite {test : Expr} {body orelse : List Stmt} {pos : Pos} (h : TW B n env loc test H fun b H1 => cond b (FW B n env (execs body env) loc H1 Q) (FW B n env (execs orelse env) loc H1 Q)) :
    FW B n env (exec (.If test body orelse pos) env) loc H Q := fun A E s ρ QQ hA S L kk => by
  refine wpAny_If (h A E s ρ _ hA S L fun b H1 ρ1 s1 q S1 st1 => ?_)
  cases b with
  | true => exact q A E s1 ρ1 QQ hA S1 (L.step st1) fun f f' l H2 ρ2 s2 q2 r2 S2 L2 st2 => kk _ _ _ _ _ _ q2 r2 S2 L2 (st1.toX.trans S1 (L.step st1).owned st2)
  | false => exact q A E s1 ρ1 QQ hA S1 (L.step st1) fun f f' l H2 ρ2 s2 q2 r2 S2 L2 st2 => kk _ _ _ _ _ _ q2 r2 S2 L2 (st1.toX.trans S1 (L.step st1).owned st2)

theorem ST.expr {e : Expr} {pos : Pos} (h : EW B n env loc e H fun v H1 => Q .next loc H1) (hs : swapsWith e none pos.line env = pure false := by rfl) :
    FW B n env (exec (.Expr e pos) env) loc H Q := fun A E s ρ QQ hA S L kk =>
  wpAny_Expr_any (h A E s ρ _ hA S L fun v v' H1 ρ1 s1 q vv S1 st1 => kk .next _ loc H1 ρ1 s1 q rfl S1 (L.step st1) st1.toX) (by show (env.scope.kind == .module && _) = false; rw [L.kind]; rfl) hs

theorem ST.tryOk {body orelse : List Stmt} {h₀ : ExceptHandler} {hs : List ExceptHandler} {pos : Pos} (h : FW B n env (execs body env) loc H fun f loc' H' => match f with | .next => FW B n env (execs orelse env) loc' H' Q | f => Q f loc' H') :
    FW B n env (exec (.Try body (h₀ :: hs) orelse [] pos) env) loc H Q := fun A E s ρ QQ hA S L kk => by
  refine wpAny_Try_except (h A _ s ρ _ hA S L fun f f' loc' H' ρ' s' q r S' L' st' => ?_)
  cases f with
  | next =>
    obtain rfl := r
    exact q A E s' ρ' QQ hA S' L' fun f2 f2' l2 H2 ρ2 s2 q2 r2 S2 L2 st2 => kk _ _ _ _ _ _ q2 r2 S2 L2 (st'.trans S' L'.owned st2)
  | brk => obtain rfl := r; exact kk _ _ _ _ _ _ q rfl S' L' st'
  | cont => obtain rfl := r; exact kk _ _ _ _ _ _ q rfl S' L' st'
  | ret v => obtain ⟨v', rfl, hv⟩ := r; exact kk _ _ _ _ _ _ q ⟨v', rfl, hv⟩ S' L' st'

/-- files[i][0] = new -/
theorem ST.setItem {o i value : Expr} {p pos : Pos} (T : B.There)
    (h : EW B n env loc value H fun v H1 => EW B n env loc o H1 fun ov H2 => EW B n env loc i H2 fun iv H3 => ∃ k vs j, ov = .ref k ∧ iv = .int j ∧ H3[k]? = some (.list vs) ∧ 0 ≤ j ∧ j < vs.length ∧ vs.length ≤ sizeLine ∧ Q .next loc (H3.set k (.list (vs.set j.toNat v))))
    (hs : swapsWith value (some (.Subscript o i p)) pos.line env = pure false := by rfl) : FW B n env (exec (.Assign [.Subscript o i p] value pos) env) loc H Q := fun A E s ρ QQ hA S L kk => by
  refine wpAny_Assign_Subscript (h A E s ρ _ hA S L fun v v' H1 ρ1 s1 q vv S1 st1 => q A E s1 ρ1 _ hA S1 (L.step st1) fun ov ov' H2 ρ2 s2 q2 vo S2 st2 => q2 A E s2 ρ2 _ hA S2 ((L.step st1).step st2) fun iv iv' H3 ρ3 s3 q3 vi S3 st3 => ?_) hs
  obtain ⟨k, vs, j, rfl, rfl, hk, h0, hj, hsz, q⟩ := q3
  obtain ⟨a, e, rfl⟩ := st3.mono vo
  obtain ⟨t, rfl⟩ := vi
  obtain ⟨vs', m, g, r, hl⟩ := S3.list hk e
  have hz : vs.length < 2 ^ 63 := by have : sizeLine = 16777216 := rfl; omega
  have st := (st1.trans S1 st2).trans S2 st3
  have st4 : Step B ρ3 ρ3 s3 { s3 with heap := s3.heap.update a (Obj.mapSeq (·.setIfInBounds j.toNat v')) } := Step.set (List.mem_of_getElem? e) upd_keeps
  exact ki_setAt g h0 (by omega) (by rw [List.size_toArray, ← r.length]; exact hj)
    (kk _ _ _ _ ρ3 _ q rfl (S3.upd T e g (ws' := vs'.set j.toNat v') (by simp) (r.set (st3.mono (st2.mono vv)) _)) ((L.step st).step st4) (st.trans S3 st4).toX)

/-! stores of a target -/
theorem AW.name {x : Str} {p : Pos} {v : V} {Q : Loc → Prop} (T : B.There) (q : Q (upd loc x v)) (hk : env.kindOf x = some .local := by rfl) : AW B n env (.Name x p) v loc H Q := fun A E s ρ v' QQ hA S L hv kk =>
  wpAny_assign_Name (wpAny_storeL T S L hv hk fun s2 S2 L2 st2 => kk _ s2 q S2 L2 st2)

/-- what is laid beside, and lies in no ledger -/
theorem SB.beside {ρ H s} (S : SB B ρ H s) {h' : Heap} (he : Heap.ExtBut s.heap.objs.size s.heap h') : SB B ρ H { s with heap := h' } := S.keeps (tk := s.toks) (fun b o e => he b o (Nat.ne_of_lt (Heap.lt_size e)) e) S.toks
theorem Step.beside {ρ : List Addr} {s : Shared} {h' : Heap} (he : Heap.ExtBut s.heap.objs.size s.heap h') : Step B ρ ρ s { s with heap := h' } := Step.keeps (tk := s.toks) fun b o e => he b o (Nat.ne_of_lt (Heap.lt_size e)) e

theorem wpAny_two {A : Around} {E : Value → Shared → Prop} {s : Shared} {ρ : List Addr} {x y : Str} {px py : Pos} {v w : V} {v' w' : Value} {QQ : Unit → Shared → Prop} (T : B.There) (S : SB B ρ H s) (L : LocR B env loc ρ s.heap) (hv : VR ρ v v') (hw : VR ρ w w')
    (hx : env.kindOf x = some .local) (hy : env.kindOf y = some .local) (h : ∀ s', SB B ρ H s' → LocR B env (upd (upd loc x v) y w) ρ s'.heap → StepX B (· = env.locals) ρ ρ s s' → QQ () s') :
    wpAny B.M A (assignInOrder ((assignEach [.Name x px, .Name y py] env).map (·.2)) [v', w']) QQ E s := by
  have e : assignInOrder ((assignEach [.Name x px, .Name y py] env).map (·.2)) [v', w'] = (do holding [w'] (assign (.Name x px) env v'); (do holding [] (assign (.Name y py) env w'); pure ())) := rfl
  rw [e]
  refine wpAny_bind (wpAny_holding (wpAny_assign_Name (wpAny_storeL T S L hv hx fun s2 S2 L2 st2 => wpAny_bind (wpAny_holding (wpAny_assign_Name (wpAny_storeL T S2 L2 hw hy fun s3 S3 L3 st3 => wpAny_pure ?_))))))
  exact h s3 S3 L3 (st2.trans S2 (fun a e => L2.owned a (.inl e)) st3)

theorem AW.pair {x y : Str} {px py p : Pos} {c : Nat} {k : Nat} {v w : V} {Q : Loc → Prop} (T : B.There) (hk : H[k]? = some (.list [v, w])) (q : Q (upd (upd loc x v) y w)) (hx : env.kindOf x = some .local := by rfl) (hy : env.kindOf y = some .local := by rfl) :
    AW B n env (.Tuple [.Name x px, .Name y py] c p) (.ref k) loc H Q := fun A E s ρ v' QQ hA S L hv kk => by
  obtain ⟨a, e, rfl⟩ := hv
  obtain ⟨vs', m, g, r, hl⟩ := S.list hk e
  obtain _ | ⟨hv, _ | ⟨hw, _ | _⟩⟩ := r
  rename_i v' w'
  rw [PyProof.Rows.assign_Tuple]
  refine wpAny_bind (wpAny_standAt ?_)
  unfold unpack
  refine wpAny_bind (wpAny_holding (kun_itemsOf (items := #[v', w']) hA.h hl fun h' he => ?_))
  exact wpAny_two T (S.beside he) (L.step (Step.beside (B := B) (ρ := ρ) he)) hv hw hx hy fun s' S' L' st' => kk _ s' q S' L'
    ((Step.beside (B := B) (ρ := ρ) he).toX.trans (S.beside he) (fun a e => (L.step (Step.beside (B := B) (ρ := ρ) he)).owned a (.inl e)) st')

/-- a pair of the world that was -/
theorem AW.xpair {x y : Str} {px py p : Pos} {c : Nat} {t : Addr} {v w : V} {v' w' : Value} {Q : Loc → Prop} (T : B.There) (ht : B.hb.IsTuple t #[v', w']) (hP : t ≠ B.P) (hv : VR [] v v') (hw : VR [] w w') (q : Q (upd (upd loc x v) y w)) (hx : env.kindOf x = some .local := by rfl) (hy : env.kindOf y = some .local := by rfl) :
    AW B n env (.Tuple [.Name x px, .Name y py] c p) (.ext t) loc H Q := fun A E s ρ v'' QQ hA S L hvv kk => by
  obtain rfl := hvv
  have ht' : s.heap.IsTuple t #[v', w'] := ht.at fun o e => S.keep t o e (np hP)
  refine wpAny_assign_Tuple hA.h ht' rfl rfl fun h' he => ?_
  exact wpAny_two T (S.beside he) (L.step (Step.beside (B := B) (ρ := ρ) he)) (by simpa using hv.mono (more := ρ)) (by simpa using hw.mono (more := ρ)) hx hy fun s' S' L' st' => kk _ s' q S' L'
    ((Step.beside (B := B) (ρ := ρ) he).toX.trans (S.beside he) (fun a e => (L.step (Step.beside (B := B) (ρ := ρ) he)).owned a (.inl e)) st')

/-! what is no longer needed -/
def V.Closed (n : Nat) (v : V) : Prop := ∀ k, v = .ref k → k < n
def Fl.Closed (n : Nat) : Fl → Prop
  | .ret v => v.Closed n
  | _ => True

theorem FR.back {ρ more : List Addr} {f f'} (h : FR (ρ ++ more) f f') (hc : f.Closed ρ.length) : FR ρ f f' := by
  cases f with
  | ret v => obtain ⟨v', rfl, r⟩ := h; exact ⟨v', rfl, r.back hc⟩
  | _ => exact h

theorem split_len {ρ : List Addr} {H G : List O} (h : ρ.length = (H ++ G).length) : ∃ ρ₁ ρ₂, ρ = ρ₁ ++ ρ₂ ∧ ρ₁.length = H.length :=
  ⟨ρ.take H.length, ρ.drop H.length, (List.take_append_drop _ _).symm, by rw [List.length_take, h, List.length_append]; omega⟩

/-- the last objects of the ledger, and some names, are forgotten -/
theorem FW.gc {t : Sem Flow} (h : FW B n env t loc H fun f loc' H' => ∃ loc2 H2 G, H' = H2 ++ G ∧ H.length ≤ H2.length ∧ (∀ o ∈ H2, o.Closed H2.length) ∧ (∀ x v, loc2 x = some v → loc' x = some v) ∧ LocClosed loc2 H2.length ∧ f.Closed H2.length ∧ Q f loc2 H2) :
    FW B n env t loc H Q := fun A E s ρ QQ hA S L kk => h A E s ρ QQ hA S L fun f f' loc' H' ρ' s' q r S' L' st' => by
  obtain ⟨loc2, H2, G, rfl, hlen, hc, hl, hlc, hf, q⟩ := q
  obtain ⟨ρ₁, ρ₂, rfl, e1⟩ := split_len S'.len
  obtain ⟨⟨m, e, hm⟩, k⟩ := id st'
  have hle : ρ.length ≤ ρ₁.length := by rw [e1, S.len]; exact hlen
  obtain ⟨m1, rfl⟩ : ∃ m1, ρ₁ = ρ ++ m1 := by
    have h1 : ρ <+: ρ₁ ++ ρ₂ := ⟨m, e.symm⟩
    have h2 : ρ₁ <+: ρ₁ ++ ρ₂ := List.prefix_append ..
    obtain ⟨t, e⟩ := List.prefix_of_prefix_length_le h1 h2 hle
    exact ⟨t, e.symm⟩
  exact kk f f' loc2 H2 _ s' q (r.back (by rw [e1]; exact hf)) (S'.drop e1 hc) ((L'.less hl).drop (by rw [e1]; exact hlc)) st'.drop

theorem EW.gc {e : Expr} {Q : V → List O → Prop} (h : EW B n env loc e H fun v H' => ∃ H2 G, H' = H2 ++ G ∧ H.length ≤ H2.length ∧ ((∀ o ∈ H, o.Closed H.length) → ∀ o ∈ H2, o.Closed H2.length) ∧ v.Closed H2.length ∧ Q v H2) :
    EW B n env loc e H Q := fun A E s ρ QQ hA S L kk => h A E s ρ QQ hA S L fun v v' H' ρ' s' q r S' st' => by
  obtain ⟨H2, G, rfl, hlen, hc, hf, q⟩ := q
  obtain ⟨ρ₁, ρ₂, rfl, e1⟩ := split_len S'.len
  obtain ⟨⟨m, e, hm⟩, k⟩ := id st'
  have hle : ρ.length ≤ ρ₁.length := by rw [e1, S.len]; exact hlen
  obtain ⟨m1, rfl⟩ : ∃ m1, ρ₁ = ρ ++ m1 := by
    have h1 : ρ <+: ρ₁ ++ ρ₂ := ⟨m, e.symm⟩
    have h2 : ρ₁ <+: ρ₁ ++ ρ₂ := List.prefix_append ..
    obtain ⟨t, e⟩ := List.prefix_of_prefix_length_le h1 h2 hle
    exact ⟨t, e.symm⟩
  exact kk v v' H2 _ s' q (r.back (by rw [e1]; exact hf)) (S'.drop e1 (hc S.closed)) st'.drop

end
end Mine

end
section
open PySem PySem.W PySem.Calls PyProof.Rows
set_option maxRecDepth 100000
namespace Mine

/-- a frame -/
def fenv (S : Scope) (q : Str) (f : Addr) (cd : Value) (L : Addr) : Env :=
  { scope := S, locals := L, globals := mainGlobals, cells := cellsFrom (L + 1) S.names [], qual := q, func := some f, code := cd, frame := some L, builtins := builtinsNs }

def locOf (names : List Str) (vs : List V) : Loc := fun x => (names.zip vs).lookup x

/-- a def of the top -/
structure Fn (B : Wd) (f : Addr) (names : List Str) (body : List Stmt) (S : Scope) : Prop where
  ex : ∃ o fd, B.hb.get? f = some o ∧ o.data = .func fd ∧ fd.scope = S ∧ fd.body = .stmts body ∧ fd.closure = [] ∧ fd.globals = mainGlobals ∧ fd.builtins = builtinsNs ∧
    (∃ c oc vs t, fd.code = .ref c ∧ c ≠ B.P ∧ B.hb.get? c = some oc ∧ oc.data = .fields vs ∧ vs[1]? = some (.str fd.qualname t)) ∧ ∀ vals, vals.length = names.length → bindArgs fd ⟨vals, []⟩ = pure (names.zip vals)
  p : f ≠ B.P

theorem Fn.callee {B : Wd} {f names body S} (F : Fn B f names body S) : Callee B (.ref f) := by
  obtain ⟨⟨o, fd, h1, h2, _⟩, p⟩ := F
  exact .fn h1 h2 p

section
variable {B : Wd} {n : Nat} {H : List O} {Q : V → List O → Prop}

theorem zip_lookup {ρ : List Addr} : ∀ {names : List Str} {vs : List V} {vs' : List Value} (h : VRs ρ vs vs') {x : Str} {v : V}, (names.zip vs).lookup x = some v → ∃ v', (x, v') ∈ names.zip vs' ∧ VR ρ v v'
  | [], _, _, _, _, _, e => by simp at e
  | _ :: _, _, _, .nil, _, _, e => by simp at e
  | k :: names, _, _, .cons (v := u) (v' := u') (vs := vs) (vs' := vs') hu h, x, v, e => by
    simp only [List.zip_cons_cons, List.lookup_cons] at e
    cases hx : x == k with
    | true => rw [hx] at e; cases e; rw [beq_iff_eq.mp hx]; exact ⟨u', by simp, hu⟩
    | false => rw [hx] at e; obtain ⟨v', m, r⟩ := zip_lookup (names := names) h e; exact ⟨v', by simp [m], r⟩

theorem bindL_skip {kindOf : Str → Option NameKind} : ∀ {binds : List (Str × Value)} {m : Str → Option Value} {x : Str}, (∀ b ∈ binds, b.1 ≠ x) → bindL kindOf binds m x = m x
  | [], _, _, _ => rfl
  | (k, v) :: r, m, x, h => by
    unfold bindL
    rw [bindL_skip fun b hb => h b (.tail _ hb)]
    split
    · exact if_neg (Ne.symm (h _ (.head _)))
    · rfl
theorem bindC_skip {kindOf : Str → Option NameKind} : ∀ {binds : List (Str × Value)} {m : Str → Option Value} {x : Str}, (∀ b ∈ binds, b.1 ≠ x) → bindC kindOf binds m x = m x
  | [], _, _, _ => rfl
  | (k, v) :: r, m, x, h => by
    unfold bindC
    rw [bindC_skip fun b hb => h b (.tail _ hb)]
    split
    · rfl
    · exact if_neg (Ne.symm (h _ (.head _)))
theorem bindL_at {kindOf : Str → Option NameKind} {x : Str} {v : Value} (hk : kindOf x = some .local) : ∀ {binds : List (Str × Value)} {m : Str → Option Value}, (binds.map (·.1)).Nodup → (x, v) ∈ binds → bindL kindOf binds m x = some v
  | (k, u) :: r, m, hn, hm => by
    simp only [List.map_cons, List.nodup_cons] at hn
    unfold bindL
    rcases List.mem_cons.mp hm with e | hm
    · cases e
      rw [bindL_skip fun b hb e => hn.1 (List.mem_map.mpr ⟨b, hb, e⟩), if_pos hk]; exact if_pos rfl
    · exact bindL_at hk hn.2 hm
theorem bindC_at {kindOf : Str → Option NameKind} {x : Str} {v : Value} (hk : kindOf x ≠ some .local) : ∀ {binds : List (Str × Value)} {m : Str → Option Value}, (binds.map (·.1)).Nodup → (x, v) ∈ binds → bindC kindOf binds m x = some v
  | (k, u) :: r, m, hn, hm => by
    simp only [List.map_cons, List.nodup_cons] at hn
    unfold bindC
    rcases List.mem_cons.mp hm with e | hm
    · cases e
      rw [bindC_skip fun b hb e => hn.1 (List.mem_map.mpr ⟨b, hb, e⟩), if_neg hk]; exact if_pos rfl
    · exact bindC_at hk hn.2 hm

/-- the kinds of a def's parameters -/
def kindsOk (names : List Str) (S : Scope) : Bool := names.all fun x => S.names.lookup x == some .local || (S.names.lookup x == some .cell && ((cellsFrom 0 S.names []).lookup x).isSome)

theorem cells_some : ∀ (names : List (Str × NameKind)) (a b : Nat) (acc acc' : List (Str × Addr)) (x : Str), ((acc.lookup x).isSome = (acc'.lookup x).isSome) → ((cellsFrom a names acc).lookup x).isSome = ((cellsFrom b names acc').lookup x).isSome
  | [], _, _, _, _, _, h => h
  | (k, kind) :: r, a, b, acc, acc', x, h => by
    unfold cellsFrom
    split
    · refine cells_some r _ _ _ _ x ?_
      simp only [List.lookup_cons]
      cases x == k <;> simp [h]
    · exact cells_some r _ _ _ _ x h

theorem CW.def {f : Addr} {names : List Str} {body : List Stmt} {S : Scope} {vs : List V} (W : B.Ok) (T : B.There) (F : Fn B f names body S) (hlen : vs.length = names.length)
    (h : ∀ q cd L, (∃ o fd, B.hb.get? f = some o ∧ o.data = .func fd ∧ fd.code = cd) → FW B n (fenv S q f cd L) (execs body (fenv S q f cd L)) (locOf names vs) H fun fl _ H' => ∃ v H2 G, (match fl with | .ret u => u | _ => .none) = v ∧ H' = H2 ++ G ∧ H.length ≤ H2.length ∧ ((∀ o ∈ H, o.Closed H.length) → ∀ o ∈ H2, o.Closed H2.length) ∧ v.Closed H2.length ∧ Q v H2)
    (hk : kindsOk names S = true := by decide) (hn : names.Nodup := by decide) (hkind : S.kind = .function := by rfl) (hco : S.isCoroutine = false := by rfl) (hgen : S.isGenerator = false := by rfl) :
    CW B (n + 1) (.ref f) vs H Q := fun A E s ρ vs' QQ hA SS hv kk => by
  obtain ⟨⟨o, fd, ho, hd, hS, hbody, hclo, hglob, hbu, ⟨c, oc, cvs, t, hc1, hc2, hc3, hc4, hc5⟩, hbind⟩, hfP⟩ := F
  subst hS
  refine wpAny_call ?_
  refine codeAny_call_function hA.room (SS.keep _ _ ho (np hfP)) hd hco hgen hbody ⟨c, oc, cvs, t, hc1, SS.keep _ _ hc3 (np hc2), hc4, hc5⟩ ?_
  rw [hbind vs' (by rw [← hv.length]; exact hlen), hclo]
  refine wpAny_pure (wpAny_with_toks SS.toks (wpAny_newFunctionEnv_cells hkind (fun x hx => ?_) fun env he s' x htk => ?_))
  · have hx1 : x.1 ∈ names := (List.of_mem_zip hx).1
    have := List.all_eq_true.mp hk x.1 hx1
    simp only [Bool.or_eq_true, Bool.and_eq_true, beq_iff_eq] at this
    rcases this with h | ⟨h, h'⟩
    · exact .inl h
    · exact .inr ⟨h, by rw [← h']; exact cells_some _ _ _ _ _ _ rfl⟩
  have he' : env = fenv fd.scope (fd.qualname ++ ".<locals>.") f fd.code s.heap.objs.size := by
    rw [he, hglob, hbu]; rfl
  clear he
  subst he'
  refine ⟨W.nolimit.at fun o e => x.toInCall.keep _ _ (SS.keep _ _ e (np W.ps)), codeAny_func ?_⟩
  have fresh : ∀ a, s.heap.objs.size ≤ a → s.heap.get? a = none := fun a ha => Heap.get?_none_of_le ha
  have notin : ∀ a, s.heap.get? a = none → a ∉ ρ ∧ a ≠ B.P ∧ B.hb.get? a = none := fun a ha => by
    have hP : a ≠ B.P := fun e => by obtain ⟨ob, e'⟩ := SS.tab.there; rw [← e, ha] at e'; cases e'
    refine ⟨fun h => (by obtain ⟨ob, e⟩ := SS.mem h; rw [ha] at e; cases e), hP, ?_⟩
    cases q : B.hb.get? a with
    | none => rfl
    | some o => rw [SS.keep a o q (np hP)] at ha; cases ha
  obtain ⟨h1, tk1, hs'⟩ := x.toInCall.same
  have S' : SB B ρ H s' := by
    have hk' := x.toInCall.keep
    subst hs'
    exact SS.keeps hk' htk
  have L' : LocR B (fenv fd.scope (fd.qualname ++ ".<locals>.") f fd.code s.heap.objs.size) (locOf names vs) ρ s'.heap := by
    obtain ⟨n1, n2, n3⟩ := notin _ (fresh _ (Nat.le_refl _))
    refine ⟨hkind, rfl, rfl, n1, n2, n3, fun y c e => ?_, fun y z c e e' => name_of_addr x.apart (mem_of_lookup e) (mem_of_lookup e'), _, x.toInCall.ns, fun y v e => ?_⟩
    · have hab := x.above y c (mem_of_lookup e)
      obtain ⟨m1, m2, m3⟩ := notin c (fresh _ (Nat.le_of_lt hab))
      exact ⟨m1, m2, Nat.ne_of_gt hab, m3, _, x.cell y c e⟩
    · obtain ⟨v', hm, r⟩ := zip_lookup hv e
      have hnd : ((names.zip vs').map (·.1)).Nodup := by
        have : (names.zip vs').map (·.1) = names := by
          rw [List.map_fst_zip]; rw [← hv.length, hlen]; exact Nat.le_refl _
        rw [this]; exact hn
      have hy : y ∈ names := (List.of_mem_zip hm).1
      have := List.all_eq_true.mp hk y hy
      simp only [Bool.or_eq_true, Bool.and_eq_true, beq_iff_eq] at this
      rcases this with h | ⟨h, h'⟩
      · exact .inl ⟨h, v', bindL_at h hnd hm, r⟩
      · have h2 : ((cellsFrom (s.heap.objs.size + 1) fd.scope.names []).lookup y).isSome = true := by rw [← h']; exact cells_some _ _ _ _ _ _ rfl
        obtain ⟨c, hc⟩ := Option.isSome_iff_exists.mp h2
        refine .inr ⟨.inl h, c, v', hc, ?_, r⟩
        have := x.cell y c hc
        rwa [bindC_at (show (fenv fd.scope (fd.qualname ++ ".<locals>.") f fd.code s.heap.objs.size).kindOf y ≠ some .local by show fd.scope.names.lookup y ≠ _; rw [h]; decide) hnd hm] at this
  refine h _ _ _ ⟨o, fd, ho, hd, rfl⟩ _ _ s' ρ _ (hA.deeper) S' L' fun fl fl' loc' H' ρ' s'' q r S'' L'' st'' => ?_
  obtain ⟨v, H2, G, hfl, rfl, hle, hcl, hvc, q⟩ := q
  obtain ⟨ρ₁, ρ₂, rfl, e1⟩ := split_len S''.len
  obtain ⟨⟨m, e, hm⟩, k⟩ := id st''
  have hle : ρ.length ≤ ρ₁.length := by rw [e1, SS.len]; exact hle
  obtain ⟨m1, rfl⟩ : ∃ m1, ρ₁ = ρ ++ m1 := by
    have h1 : ρ <+: ρ₁ ++ ρ₂ := ⟨m, e.symm⟩
    have h2 : ρ₁ <+: ρ₁ ++ ρ₂ := List.prefix_append ..
    obtain ⟨t, e⟩ := List.prefix_of_prefix_length_le h1 h2 hle
    exact ⟨t, e.symm⟩
  have hvv : VR ((ρ ++ m1) ++ ρ₂) v (match (generalizing := false) fl' with | .ret v => v | _ => .none) := by
    subst hfl
    cases fl with
    | ret u => obtain ⟨v', rfl, hr⟩ := r; exact hr
    | next => obtain rfl := r; rfl
    | brk => obtain rfl := r; rfl
    | cont => obtain rfl := r; rfl
  refine kk v _ H2 _ s'' q (hvv.back (by rw [e1]; exact hvc)) (S''.drop e1 (hcl SS.closed)) ?_
  have := st''.drop
  refine ⟨⟨m1, rfl, fun a ha => ?_⟩, fun a o e na nP => ?_⟩
  · obtain ⟨⟨m', e', hm'⟩, _⟩ := this
    have e' := List.append_cancel_left e'
    subst e'
    cases q : s.heap.get? a with
    | none => rfl
    | some o => have := hm' a ha; rw [x.toInCall.keep a o q] at this; cases this
  · refine this.keep a o (x.toInCall.keep a o e) na nP ?_
    rintro (rfl | ⟨y, hc⟩)
    · have := fresh _ (Nat.le_refl s.heap.objs.size); rw [show (fenv fd.scope (fd.qualname ++ ".<locals>.") f fd.code s.heap.objs.size).locals = s.heap.objs.size from rfl, this] at e; cases e
    · have := fresh _ (Nat.le_of_lt (x.above y a (mem_of_lookup hc))); rw [this] at e; cases e

end
end Mine

end
section
open PySem PySem.W PySem.Calls PyProof.Rows
set_option maxRecDepth 100000
namespace Mine

def plainIter (T : String) : Prop := ["enumerate", "zip", "dict_itemiterator", "dict_reverseitemiterator", "odict_iterator", "itertools.zip_longest", "itertools.pairwise"].contains T = false

/-- an iterator that lies in no ledger -/
structure Itr (B : Wd) (ρ₀ : List Addr) (it : Addr) (items : List V) (Need : List O → Prop) (J : Nat → Heap → Prop) : Prop where
  frame : ∀ {i h h'}, J i h → (∀ o, h.get? it = some o → h'.get? it = some o) → (∀ a o, B.hb.get? a = some o → B.NP a → h'.get? a = some o) → J i h'
  there : ∀ {i h}, J i h → ∃ o T, h.get? it = some o ∧ o.cls = .type T ∧ plainIter T
  next : ∀ {A E s ρ more H i v} {QQ : Option Value → Shared → Prop}, A.handled = none → ρ = ρ₀ ++ more → SB B ρ H s → Need H → J i s.heap → items[i]? = some v →
    (∀ v' h' tk, VR ρ v v' → J (i + 1) h' → (∀ b o, b ≠ it → s.heap.get? b = some o → h'.get? b = some o) → B.t0 ≤ tk → QQ (some v') { s with heap := h', toks := tk }) → wpAny B.M A (pyNext (.ref it)) QQ E s
  done : ∀ {A E s ρ more H} {QQ : Option Value → Shared → Prop}, A.handled = none → ρ = ρ₀ ++ more → SB B ρ H s → Need H → J items.length s.heap →
    (∀ h' tk, (∀ b o, b ≠ it → s.heap.get? b = some o → h'.get? b = some o) → B.t0 ≤ tk → QQ none { s with heap := h', toks := tk }) → wpAny B.M A (pyNext (.ref it)) QQ E s
  self : ∀ {A E s i} {QQ : Value → Shared → Prop}, A.handled = none → J i s.heap → QQ (.ref it) s → wpAny B.M A (pyIter (.ref it)) QQ E s

/-- a thing to walk over -/
def IT (B : Wd) (v : V) (H : List O) (items : List V) (Need : List O → Prop) : Prop :=
  Need H ∧ ∀ (A : Around) (E : Value → Shared → Prop) (s : Shared) (ρ : List Addr) (v' : Value) (QQ : Value → Shared → Prop), A.handled = none → SB B ρ H s → VR ρ v v' →
    (∀ it J s', Itr B ρ it items Need J → J 0 s'.heap → s.heap.get? it = none → SB B ρ H s' → Step B ρ ρ s s' → QQ (.ref it) s') → wpAny B.M A (pyIter v') QQ E s

section
variable {B : Wd} {n : Nat} {H : List O}

theorem Itr.lets {ρ₀ it items Need J} (W : Itr B ρ₀ it items Need J) {A : Around} {E : Value → Shared → Prop} {s : Shared} {i : Nat} {tgt : Expr} {v : Value} {QQ : Unit → Shared → Prop} (hJ : J i s.heap) (q : QQ () s) :
    wpAny B.M A (letOwnedTupleGo tgt (.ref it) v) QQ E s := by
  obtain ⟨o, T, e, hc, hT⟩ := W.there hJ
  unfold letOwnedTupleGo
  have key : wpAny B.M A (do
      let (.ref r, .ref a) := ((Value.ref it), v) | return
      let o ← load r
      match o.cls, o.data with
      | .type n, .fields vs =>
        if ["enumerate", "zip", "dict_itemiterator", "dict_reverseitemiterator", "odict_iterator", "itertools.zip_longest", "itertools.pairwise"].contains n && vs[0]? == some (rawInt a) then
          rule "for.unpacks-the-owned-tuple"
          updateField r 0 .none
      | _, _ => pure ()) QQ E s := by
    cases v with
    | ref a =>
      refine wpAny_bind (wpAny_load e ?_)
      rw [hc]
      split
      · rename_i n vs h1 h2
        cases h1
        rw [show ["enumerate", "zip", "dict_itemiterator", "dict_reverseitemiterator", "odict_iterator", "itertools.zip_longest", "itertools.pairwise"].contains T = false from hT]
        exact wpAny_pure q
      · exact wpAny_pure q
    | _ => exact wpAny_pure q
  split
  · exact key
  · exact key
  · exact wpAny_pure q

theorem IT.list {k : Nat} {vs : List V} (hk : H[k]? = some (.list vs)) : IT B (.ref k) H vs (fun H' => H'[k]? = some (.list vs)) := by
  refine ⟨hk, fun A E s ρ v' QQ hh S hv kk => ?_⟩
  obtain ⟨a, e, rfl⟩ := hv
  obtain ⟨vs', m, g, r, hl⟩ := S.list hk e
  refine wpAny_pyIter_list hl (kk s.heap.objs.size (fun i h => h.IsListIter s.heap.objs.size a i) _ ?_ ⟨_, Heap.get?_push_size _ rfl, rfl, rfl⟩ no_new
    (S.keeps (tk := s.toks) (fun b o e => Heap.get?_push_of_some _ e) S.toks) (Step.keeps (tk := s.toks) (fun b o e => Heap.get?_push_of_some _ e)))
  refine ⟨fun j hk _ => j.at fun o e => hk o e, fun j => ?_, fun {A E s ρ' more H i v QQ} hh hρ S hN hJ hi kk => ?_, fun {A E s ρ' more H QQ} hh hρ S hN hJ kk => ?_, fun hh j q => wpAny_pyIter_listiter j q⟩
  · obtain ⟨o, e, hc, _⟩ := j; exact ⟨o, _, e, hc, by unfold plainIter; decide⟩
  · obtain ⟨vs', m, g, r, hl⟩ := S.list hN (hρ ▸ getElem?_app e)
    obtain ⟨v', hx, vv⟩ := r.get hi
    exact wpAny_pyNext_list_item hJ hl (by simpa using hx) fun h' hj hs => kk v' h' s.toks vv hj (fun b o nb e => hs.extBut b o nb e) S.toks
  · obtain ⟨vs', m, g, r, hl⟩ := S.list hN (hρ ▸ getElem?_app e)
    exact wpAny_pyNext_list_end hh hJ hl (by simp [r.length]) fun h' hs => kk h' s.toks (fun b o nb e => hs b o nb e) S.toks

def signs (x : Str) : List V := x.cps.toList.map fun c => .str ⟨#[c]⟩

theorem IT.str {x : Str} : IT B (.str x) H (signs x) (fun _ => True) := by
  refine ⟨trivial, fun A E s ρ v' QQ hh S hv kk => ?_⟩
  obtain ⟨t, rfl⟩ := hv
  have hlen : (signs x).length = x.cps.size := by simp [signs]
  have item : ∀ {i v v'}, (signs x)[i]? = some v → SignAt x i v' → ∀ ρ, VR ρ v v' := fun {i v v'} hi hs ρ => by
    obtain ⟨c, u, hc, rfl⟩ := hs
    simp only [signs, List.getElem?_map, Array.getElem?_toList, hc] at hi
    cases hi
    exact ⟨u, rfl⟩
  cases ha : x.cps.all (· < 128)
  · refine wpAny_pyIter_wide ha (kk s.heap.objs.size (fun i h => h.IsStrIter s.heap.objs.size "str_iterator" x t i) _ ?_ ⟨_, Heap.get?_push_size _ rfl, rfl, rfl⟩ no_new
      (S.keeps (tk := s.toks) (fun b o e => Heap.get?_push_of_some _ e) S.toks) (Step.keeps (tk := s.toks) (fun b o e => Heap.get?_push_of_some _ e)))
    refine ⟨fun j hk _ => let ⟨o, ho, r⟩ := j; ⟨o, hk o ho, r⟩, fun j => ?_, fun {A E s ρ' more H i v QQ} hh hρ S hN hJ hi kk => ?_, fun {A E s ρ' more H QQ} hh hρ S hN hJ kk => ?_, fun hh j q => wpAny_pyIter_striter_wide j q⟩
    · obtain ⟨o, e, hc, _⟩ := j; exact ⟨o, _, e, hc, by unfold plainIter; decide⟩
    · exact wpAny_with_toks S.toks ((Walks.strWide hh _ x t).item i s _ _ (hlen ▸ (List.getElem?_eq_some_iff.mp hi).1) hJ fun v' h' tk hp st' hk htk => kk v' h' tk (item hi hp _) st' (fun b o nb e => hk b o (by simpa using nb) e) htk)
    · exact wpAny_with_toks S.toks ((Walks.strWide hh _ x t).done s _ _ (hlen ▸ hJ) fun h' tk hk htk => kk h' tk (fun b o nb e => hk b o (by simpa using nb) e) htk)
  · refine wpAny_pyIter_ascii ha (kk s.heap.objs.size (fun i h => h.IsStrIter s.heap.objs.size "str_ascii_iterator" x t i) _ ?_ ⟨_, Heap.get?_push_size _ rfl, rfl, rfl⟩ no_new
      (S.keeps (tk := s.toks) (fun b o e => Heap.get?_push_of_some _ e) S.toks) (Step.keeps (tk := s.toks) (fun b o e => Heap.get?_push_of_some _ e)))
    refine ⟨fun j hk _ => let ⟨o, ho, r⟩ := j; ⟨o, hk o ho, r⟩, fun j => ?_, fun {A E s ρ' more H i v QQ} hh hρ S hN hJ hi kk => ?_, fun {A E s ρ' more H QQ} hh hρ S hN hJ kk => ?_, fun hh j q => wpAny_pyIter_striter_ascii j q⟩
    · obtain ⟨o, e, hc, _⟩ := j; exact ⟨o, _, e, hc, by unfold plainIter; decide⟩
    · exact wpAny_with_toks S.toks ((Walks.strAscii hh _ x t).item i s _ _ (hlen ▸ (List.getElem?_eq_some_iff.mp hi).1) hJ fun v' h' tk hp st' hk htk => kk v' h' tk (item hi hp _) st' (fun b o nb e => hk b o (by simpa using nb) e) htk)
    · exact wpAny_with_toks S.toks ((Walks.strAscii hh _ x t).done s _ _ (hlen ▸ hJ) fun h' tk hk htk => kk h' tk (fun b o nb e => hk b o (by simpa using nb) e) htk)

def rangeOf (a b : Int) : List V := (List.range (b - a).toNat).map fun i : Nat => V.int (a + i)

theorem IT.range {k : Nat} {a b : Int} (hk : H[k]? = some (.range a b)) (hs : Builtin.Range.small a b 1 = true) : IT B (.ref k) H (rangeOf a b) (fun _ => True) := by
  refine ⟨trivial, fun A E s ρ v' QQ hh S hv kk => ?_⟩
  obtain ⟨r, e, rfl⟩ := hv
  obtain ⟨t, u, v, g⟩ := S.objs k _ r hk e
  have hlen : (rangeOf a b).length = (b - a).toNat := by simp [rangeOf]
  have item : ∀ {i : Nat} {v v'}, (rangeOf a b)[i]? = some v → (∃ t, v' = .int (a + (i : Int) * 1) t) → ∀ ρ, VR ρ v v' := fun {i v v'} hi hs ρ => by
    obtain ⟨t, rfl⟩ := hs
    have hlt := (List.getElem?_eq_some_iff.mp hi).1
    rw [hlen] at hlt
    simp only [rangeOf, List.getElem?_map, List.getElem?_range hlt] at hi
    cases hi
    exact ⟨t, by rw [Int.mul_one]⟩
  refine wpAny_pyIter_range g hs (kk s.heap.objs.size (fun i h => IsRangeIter h s.heap.objs.size (a + (i : Nat) * 1) (((b - a).toNat : Int) - (i : Nat)) 1) _ ?_ ?_ no_new
    (S.keeps (tk := s.toks) (fun b o e => Heap.get?_push_of_some _ e) S.toks) (Step.keeps (tk := s.toks) (fun b o e => Heap.get?_push_of_some _ e)))
  · refine ⟨fun j hk _ => hk _ j, fun j => ?_, fun {A E s ρ' more H i v QQ} hh hρ S hN hJ hi kk => ?_, fun {A E s ρ' more H QQ} hh hρ S hN hJ kk => ?_, fun hh j q => wpAny_pyIter_rangeiter j q⟩
    · exact ⟨_, _, j, rfl, by unfold plainIter; decide⟩
    · exact wpAny_with_toks S.toks ((Walks.range hh _ a 1 (b - a).toNat).item i s _ _ (hlen ▸ (List.getElem?_eq_some_iff.mp hi).1) hJ fun v' h' tk hp st' hk htk => kk v' h' tk (item hi hp _) st' (fun b o nb e => hk b o (by simpa using nb) e) htk)
    · exact wpAny_with_toks S.toks ((Walks.range hh _ a 1 (b - a).toNat).done s _ _ (hlen ▸ hJ) fun h' tk hk htk => kk h' tk (fun b o nb e => hk b o (by simpa using nb) e) htk)
  · show IsRangeIter (s.heap.push _) _ _ _ _
    rw [PyProof.Rows.rangeSize_nat]
    have := Heap.get?_push_size s.heap (o := { cls := .type "range_iterator", data := .fields #[rawInt a, rawInt ((b - a).toNat : Int), rawInt 1] }) rfl
    simpa using this

/-- a tuple of the world that was -/
theorem IT.xtup {t : Addr} {vs : List V} {vs' : List Value} (ht : B.hb.IsTuple t vs'.toArray) (hP : t ≠ B.P) (hv : VRs [] vs vs') : IT B (.ext t) H vs (fun _ => True) := by
  refine ⟨trivial, fun A E s ρ v' QQ hh S hvv kk => ?_⟩
  obtain rfl := hvv
  have hat : ∀ h : Heap, (∀ a o, B.hb.get? a = some o → B.NP a → h.get? a = some o) → h.IsTuple t vs'.toArray := fun h hk => ht.at fun o e => hk t o e (np hP)
  refine wpAny_pyIter_tuple (hat _ S.keep) (kk s.heap.objs.size (fun i h => h.IsTupleIter s.heap.objs.size t i) _ ?_ ⟨_, Heap.get?_push_size _ rfl, rfl, rfl⟩ no_new
    (S.keeps (tk := s.toks) (fun b o e => Heap.get?_push_of_some _ e) S.toks) (Step.keeps (tk := s.toks) (fun b o e => Heap.get?_push_of_some _ e)))
  refine ⟨fun j hk _ => j.at fun o e => hk o e, fun j => ?_, fun {A E s ρ' more H i v QQ} hh hρ S hN hJ hi kk => ?_, fun {A E s ρ' more H QQ} hh hρ S hN hJ kk => ?_, fun hh j q => wpAny_pyIter_tupleiter j q⟩
  · obtain ⟨o, e, hc, _⟩ := j; exact ⟨o, _, e, hc, by unfold plainIter; decide⟩
  · obtain ⟨v', hx, vv⟩ := hv.get hi
    exact wpAny_pyNext_tuple_item hJ (hat _ S.keep) (by simpa using hx) fun h' hj hs => kk v' h' s.toks (by simpa using vv.mono (more := ρ')) hj (fun b o nb e => hs.extBut b o nb e) S.toks
  · exact wpAny_pyNext_tuple_end hh hJ (hat _ S.keep) (by simp [hv.length]) fun h' hs => kk h' s.toks (fun b o nb e => hs b o nb e) S.toks

variable {env : Env} {loc : Loc} {Q : Fl → Loc → List O → Prop}

/-- what a for statement asks -/
def ForOk (B : Wd) (n : Nat) (env : Env) (tgt : Expr) (body orelse : List Stmt) (Q : Fl → Loc → List O → Prop) (v : V) (loc : Loc) (H : List O) : Prop :=
  ∃ (items : List V) (Need : List O → Prop) (I : Nat → Loc → List O → Prop), IT B v H items Need ∧ I 0 loc H ∧ (∀ i loc H, I i loc H → Need H) ∧
    (∀ i v loc H, items[i]? = some v → I i loc H → AW B n env tgt v loc H fun loc' => FW B n env (execs body env) loc' H fun f l H' => match f with | .next => I (i + 1) l H' | .cont => I (i + 1) l H' | .brk => Q .next l H' | .ret v => Q (.ret v) l H') ∧
    (∀ loc H, I items.length loc H → FW B n env (execs orelse env) loc H Q)

theorem ST.for {tgt iter : Expr} {body orelse : List Stmt} {pos : Pos} (T : B.There) (h : EW B n env loc iter H fun v H1 => ForOk B n env tgt body orelse Q v loc H1)
    (hs : ∀ x, foldedSetIterable iter env x = pure x := by intro _; rfl) : FW B n env (exec (.For tgt iter body orelse pos) env) loc H Q := fun A E s ρ QQ hA S L kk => by
  refine wpAny_For (h A E s ρ _ hA S L fun v v' H1 ρ1 s1 q vv S1 st1 => ?_) hs
  obtain ⟨items, Need, I, hIT, hI0, hNeed, hTurn, hEnd⟩ := q
  refine hIT.2 A E s1 ρ1 v' _ hA.h S1 vv fun it J s2 W hJ0 hnew S2 st2 => ?_
  have L1 := L.step st1
  have L2 := L1.step st2
  have nit : it ∉ ρ1 ∧ it ≠ B.P ∧ B.hb.get? it = none ∧ ¬ Own env it := by
    have hP : it ≠ B.P := fun e => by obtain ⟨ob, e'⟩ := S1.tab.there; rw [← e, hnew] at e'; cases e'
    refine ⟨fun h => (by obtain ⟨ob, e⟩ := S1.mem h; rw [hnew] at e; cases e), hP, ?_, fun h => (by obtain ⟨o, e⟩ := L1.owned it h; rw [hnew] at e; cases e)⟩
    cases q : B.hb.get? it with
    | none => rfl
    | some o => rw [S1.keep it o q (np hP)] at hnew; cases hnew
  refine codeAny_forLoop_any (fun k s' => ∃ i loc' H' ρ' more, ρ' = ρ1 ++ more ∧ k = items.length + 1 - i ∧ i ≤ items.length ∧ I i loc' H' ∧ J i s'.heap ∧ SB B ρ' H' s' ∧ LocR B env loc' ρ' s'.heap ∧ it ∉ ρ' ∧
      StepX B (fun a => Own env a ∨ a = it) ρ ρ' s s') ?_ (items.length + 1) ⟨0, loc, H1, ρ1, [], by simp, rfl, Nat.zero_le _, hI0, hJ0, S2, L2, nit.1, (st1.trans S1 st2).toX⟩
  rintro k s' ⟨i, loc', H', ρ', more, hρ', rfl, hi, hI, hJ, S', L', hit, st'⟩
  have sbk : ∀ {h' : Heap} {tk : Nat}, (∀ b o, b ≠ it → s'.heap.get? b = some o → h'.get? b = some o) → B.t0 ≤ tk → SB B ρ' H' { s' with heap := h', toks := tk } := fun {h' tk} hk ht =>
    S'.other T (X := (· = it)) (fun a e => e ▸ ⟨hit, nit.2.2.1⟩) (fun b o nb e => hk b o nb e) ht
  have lk : ∀ {h' : Heap}, (∀ b o, b ≠ it → s'.heap.get? b = some o → h'.get? b = some o) → LocR B env loc' ρ' h' := fun {h'} hk => L'.at fun a o ho e => hk a o (fun q => nit.2.2.2 (q ▸ ho)) e
  have stk : ∀ {h' : Heap} {tk : Nat}, (∀ b o, b ≠ it → s'.heap.get? b = some o → h'.get? b = some o) → StepX B (fun a => Own env a ∨ a = it) ρ' ρ' s' { s' with heap := h', toks := tk } := fun {h' tk} hk =>
    ⟨⟨[], by simp, by simp⟩, fun a o e _ _ nx => hk a o (fun q => nx (.inr q)) e⟩
  have own' : ∀ a, (Own env a ∨ a = it) → ∃ o, s'.heap.get? a = some o := fun a h => h.elim (L'.owned a) fun e => by obtain ⟨o, _, e', _⟩ := W.there hJ; exact ⟨o, e ▸ e'⟩
  cases hv : items[i]? with
  | none =>
    have hil : i = items.length := by have := List.getElem?_eq_none_iff.mp hv; omega
    subst hil
    refine W.done hA.h hρ' S' (hNeed _ _ _ hI) hJ fun h' tk hk ht => ?_
    refine hEnd loc' H' hI A _ _ ρ' _ hA (sbk hk ht) (lk hk) fun f f' l H2 ρ2 s3 q2 r2 S3 L3 st3 => ?_
    have it' : ∃ o, ({ s' with heap := h', toks := tk } : Shared).heap.get? it = some o ∨ True := ⟨default, .inr trivial⟩
    have sta : StepX B (Own env) ρ ρ2 s s3 := by
      have e1 := st'.ext
      obtain ⟨m1, rfl, hm1⟩ := e1
      obtain ⟨⟨m2, rfl, hm2⟩, k3⟩ := st3
      have keep1 : ∀ a o, s.heap.get? a = some o → a ∉ ρ → B.NP a → ¬ Own env a → h'.get? a = some o := fun a o e na nP nO => by
        have nit' : a ≠ it := fun q => by
          subst q
          cases h1 : s1.heap.get? a with
          | none => have := st1.keep a o e na nP; rw [h1] at this; cases this
          | some o' => rw [hnew] at h1; cases h1
        exact hk a o nit' (st'.keep a o e na nP fun h => h.elim nO nit')
      refine ⟨⟨m1 ++ m2, by simp, fun a ha => ?_⟩, fun a o e na nP nO => ?_⟩
      · rcases List.mem_append.mp ha with h | h
        · exact hm1 a h
        · cases q : s.heap.get? a with
          | none => rfl
          | some o =>
            exfalso
            have hn := hm2 a h
            by_cases hr : a ∈ ρ
            · obtain ⟨ob, e⟩ := (sbk hk ht).mem (List.mem_append_left _ hr); rw [hn] at e; cases e
            · by_cases hP : a = B.P
              · subst hP; obtain ⟨ob, e⟩ := (sbk hk ht).tab.there; rw [hn] at e; cases e
              · by_cases hO : Own env a
                · obtain ⟨ob, e⟩ := (lk hk).owned a hO; rw [hn] at e; cases e
                · have : h'.get? a = none := hn
                  rw [keep1 a o q hr (np hP) hO] at this; cases this
      · refine k3 a o (keep1 a o e na nP nO) (fun h => ?_) nP nO
        rcases List.mem_append.mp h with h | h
        · exact na h
        · rw [hm1 a h] at e; cases e
    exact kk f f' l H2 ρ2 s3 q2 r2 S3 L3 sta
  | some v =>
    have hlt : i < items.length := (List.getElem?_eq_some_iff.mp hv).1
    refine W.next hA.h hρ' S' (hNeed _ _ _ hI) hJ hv fun v' h' tk hv' hJ' hk ht => ?_
    refine W.lets (s := { s' with heap := h', toks := tk }) hJ' ?_
    refine hTurn i v loc' H' hv hI A _ _ ρ' v' _ hA (sbk hk ht) (lk hk) hv' fun l3 s3 q3 S3 L3 st3 => ?_
    refine q3 A _ s3 ρ' _ hA S3 L3 fun f f' l4 H4 ρ4 s4 q4 r4 S4 L4 st4 => ?_
    have nL : it ≠ env.locals := fun q => nit.2.2.2 (.inl q)
    -- the iterator stays through the store and the body
    have itk : ∀ o, h'.get? it = some o → s4.heap.get? it = some o := fun o e => st4.keep it o (st3.keep it o e hit (np nit.2.1) nL) hit (np nit.2.1) nit.2.2.2
    have hJ4 : J (i + 1) s4.heap := W.frame hJ' itk fun a o e nP => S4.keep a o e nP
    have h34 : StepX B (fun a => Own env a ∨ a = it) ρ' ρ4 { s' with heap := h', toks := tk } s4 :=
      (st3.wide fun a e => Or.inl (Or.inl e)).trans S3 (fun a h => h.elim (L3.owned a) fun e => by
        obtain ⟨o, _, e', _⟩ := W.there hJ'; exact ⟨o, e ▸ st3.keep it o e' hit (np nit.2.1) nL⟩) (st4.wide fun a e => Or.inl e)
    have own2 : ∀ a, (Own env a ∨ a = it) → ∃ o, h'.get? a = some o := fun a h => h.elim ((lk hk).owned a) fun e => by obtain ⟨o, _, e', _⟩ := W.there hJ'; exact ⟨o, e ▸ e'⟩
    have stall : StepX B (fun a => Own env a ∨ a = it) ρ ρ4 s s4 := (st'.trans S' own' (stk (tk := tk) hk)).trans (sbk hk ht) own2 h34
    obtain ⟨m4, hm4, hm4'⟩ := st4.ext
    have hit4 : it ∉ ρ4 := fun h => by
      rw [hm4] at h
      rcases List.mem_append.mp h with h | h
      · exact hit h
      · have := hm4' it h
        obtain ⟨o, _, e', _⟩ := W.there hJ'
        rw [st3.keep it o e' hit (np nit.2.1) nL] at this; cases this
    have sout : StepX B (Own env) ρ ρ4 s s4 := ⟨stall.ext, fun a o e na nP nO => stall.keep a o e na nP fun h => h.elim nO fun q => by
      subst q
      cases h1 : s1.heap.get? a with
      | none => have := st1.keep a o e na nP; rw [h1] at this; cases this
      | some o' => rw [hnew] at h1; cases h1⟩
    cases f with
    | next =>
      obtain rfl := r4
      exact ⟨items.length + 1 - (i + 1), by omega, i + 1, l4, H4, ρ4, more ++ m4, by rw [hm4, hρ']; simp, rfl, hlt, q4, hJ4, S4, L4, hit4, stall⟩
    | cont =>
      obtain rfl := r4
      exact ⟨items.length + 1 - (i + 1), by omega, i + 1, l4, H4, ρ4, more ++ m4, by rw [hm4, hρ']; simp, rfl, hlt, q4, hJ4, S4, L4, hit4, stall⟩
    | brk =>
      obtain rfl := r4
      exact kk .next _ l4 H4 ρ4 s4 q4 rfl S4 L4 sout
    | ret u =>
      obtain ⟨u', rfl, hu⟩ := r4
      exact kk (.ret u) _ l4 H4 ρ4 s4 q4 ⟨u', rfl, hu⟩ S4 L4 sout

end
end Mine

end
section
open PySem PySem.W PySem.Calls PyProof.Rows
set_option maxRecDepth 100000
namespace Mine

/-- what a comprehension sees of its frame -/
def locC (S : Scope) (loc : Loc) : Loc := fun x => if S.names.lookup x == some .free then loc x else none

def freesOk (S : Scope) (env : Env) : Bool := S.names.all fun x => x.2 != .free || ((env.cells.lookup x.1).isSome && env.kindOf x.1 == some .cell)
def namesOk (S : Scope) : Bool := S.names.all fun x => x.2 != .cell && (x.2 != .local || S.names.lookup x.1 == some .local) && (x.2 != .free || S.names.lookup x.1 == some .free)

def closOf (env : Env) : List (Str × NameKind) → List (Str × Addr) → List (Str × Addr)
  | [], acc => acc
  | (x, k) :: r, acc => if k == .free then closOf env r ((x, (env.cells.lookup x).getD 0) :: acc) else closOf env r acc

theorem closOf_for {env : Env} : ∀ (names : List (Str × NameKind)) (acc : List (Str × Addr)), (names.all fun x => x.2 != .free || ((env.cells.lookup x.1).isSome && env.kindOf x.1 == some .cell)) = true →
    (forIn names acc (fun (x : Str × NameKind) (r : List (Str × Addr)) => if (x.2 == .free) = true then do let a ← cellOf env x.1; pure (ForInStep.yield ((x.1, a) :: r)) else pure (ForInStep.yield r)) : Sem (List (Str × Addr))) = pure (closOf env names acc)
  | [], acc, _ => rfl
  | (x, k) :: r, acc, h => by
    simp only [List.all_cons, Bool.and_eq_true] at h
    rw [List.forIn_cons]
    unfold closOf
    by_cases hk : (k == NameKind.free) = true
    · simp only [hk, if_true]
      have h1 := h.1
      have hk' : k = .free := by simpa using hk
      subst hk'
      simp only [bne_self_eq_false, Bool.false_or, Bool.and_eq_true, beq_iff_eq] at h1
      obtain ⟨c, hc⟩ := Option.isSome_iff_exists.mp h1.1
      rw [show cellOf env x = pure c by unfold cellOf; rw [hc]]
      rw [pure_bind, pure_bind]
      dsimp only
      rw [closOf_for r _ h.2, hc]; rfl
    · simp only [hk, if_false, Bool.false_eq_true]
      rw [pure_bind]
      exact closOf_for r acc h.2

theorem closOf_is {env : Env} {S : Scope} (h : freesOk S env = true) : closureFor S env = pure (closOf env S.names []) := by
  have := closOf_for (env := env) S.names [] h
  unfold closureFor
  simp only [this]
  rfl

theorem closOf_mem {env : Env} : ∀ (names : List (Str × NameKind)) (acc : List (Str × Addr)), (names.all fun x => x.2 != .free || ((env.cells.lookup x.1).isSome && env.kindOf x.1 == some .cell)) = true →
    (∀ x c, (x, c) ∈ acc → env.cells.lookup x = some c) → ∀ x c, (x, c) ∈ closOf env names acc → env.cells.lookup x = some c
  | [], _, _, h, x, c, m => h x c m
  | (y, k) :: r, acc, ha, h, x, c, m => by
    simp only [List.all_cons, Bool.and_eq_true] at ha
    unfold closOf at m
    split at m
    · rename_i hk
      have hk' : k = .free := by simpa using hk
      subst hk'
      have h1 := ha.1
      simp only [bne_self_eq_false, Bool.false_or, Bool.and_eq_true, beq_iff_eq] at h1
      obtain ⟨d, hd⟩ := Option.isSome_iff_exists.mp h1.1
      refine closOf_mem r _ ha.2 (fun z e hz => ?_) x c m
      rcases List.mem_cons.mp hz with q | q
      · cases q; rw [hd]; rfl
      · exact h z e q
    · exact closOf_mem r _ ha.2 h x c m

theorem closOf_keeps {env : Env} {x : Str} {c : Addr} : ∀ (names : List (Str × NameKind)) (acc : List (Str × Addr)), (x, c) ∈ acc → (x, c) ∈ closOf env names acc
  | [], _, h => h
  | (y, k) :: r, acc, h => by
    unfold closOf
    split
    · exact closOf_keeps r _ (.tail _ h)
    · exact closOf_keeps r _ h
theorem closOf_has {env : Env} {x : Str} {c : Addr} (hc : env.cells.lookup x = some c) : ∀ (names : List (Str × NameKind)) (acc : List (Str × Addr)), names.lookup x = some .free → (x, c) ∈ closOf env names acc
  | [], _, h => by simp at h
  | (y, k) :: r, acc, h => by
    rw [List.lookup_cons] at h
    unfold closOf
    cases hx : x == y with
    | true =>
      rw [hx] at h; cases h
      have : x = y := beq_iff_eq.mp hx
      subst this
      simp only [beq_self_eq_true, if_true]
      exact closOf_keeps r _ (by rw [hc]; exact .head _)
    | false =>
      rw [hx] at h
      split
      · exact closOf_has hc r _ h
      · exact closOf_has hc r _ h

theorem lookup_mem_some {x : Str} {c : Addr} : ∀ {l : List (Str × Addr)}, (x, c) ∈ l → ∃ d, l.lookup x = some d
  | (y, e) :: r, h => by
    rw [List.lookup_cons]
    cases hx : x == y with
    | true => exact ⟨e, rfl⟩
    | false =>
      rcases List.mem_cons.mp h with q | q
      · cases q; simp at hx
      · exact lookup_mem_some q

theorem relabel_free {env : Env} {x : Str} (hk : env.scope.kind = .function) (hx : env.kindOf x = some .cell) : ∀ {names : List (Str × NameKind)}, names.lookup x = some .free →
    (names.map fun (n, k) => if (k == NameKind.free && env.scope.kind == .function && env.kindOf n == some .cell) then (n, NameKind.cell) else (n, k)).lookup x = some .cell
  | [], h => by simp at h
  | (n, k) :: r, h => by
    have ih := @relabel_free env x hk hx r
    show List.lookup x ((if (k == NameKind.free && env.scope.kind == .function && env.kindOf n == some .cell) = true then (n, NameKind.cell) else (n, k)) :: _) = _
    cases hxn : x == n with
    | true =>
      simp only [List.lookup_cons, hxn] at h
      cases h
      have : x = n := beq_iff_eq.mp hxn
      subst this
      simp [hk, hx, List.lookup_cons]
    | false =>
      simp only [List.lookup_cons, hxn] at h
      split
      · simp only [List.lookup_cons, hxn]; exact ih h
      · simp only [List.lookup_cons, hxn]; exact ih h

theorem lookup_mem {x : Str} {k : NameKind} : ∀ {l : List (Str × NameKind)}, l.lookup x = some k → (x, k) ∈ l
  | (y, e) :: r, h => by
    rw [List.lookup_cons] at h
    cases hx : x == y with
    | true => rw [hx] at h; cases h; rw [beq_iff_eq.mp hx]; exact .head _
    | false => rw [hx] at h; exact .tail _ (lookup_mem h)

section
variable {B : Wd} {n : Nat} {env : Env} {loc : Loc} {H : List O}

/-- the frame of a comprehension -/
theorem LocR.comp {S : Scope} {ρ : List Addr} {h h' : Heap} {C : Addr} (L : LocR B env loc ρ h) (hS : S.kind = .function) (hf : freesOk S env = true) (hk : ∀ b o, h.get? b = some o → h'.get? b = some o)
    (hC : h'.Ns C fun _ => none) (hnew : h.get? C = none) (h1 : C ∉ ρ) (h2 : C ≠ B.P) (h3 : B.hb.get? C = none) : LocR B (compEnvC S (closOf env S.names []) C env) (locC S loc) ρ h' := by
  have sub : ∀ x c, (closOf env S.names []).lookup x = some c → env.cells.lookup x = some c := fun x c e => closOf_mem S.names [] hf (fun _ _ m => by cases m) x c (mem_of_lookup e)
  refine ⟨hS, L.glob, L.bu, h1, h2, h3, fun x c e => ?_, fun x y c e e' => L.apart x y c (sub x c e) (sub y c e'), _, hC, fun x v e => ?_⟩
  · obtain ⟨m1, m2, m3, m4, v, o, ho, hd⟩ := L.cells x c (sub x c e)
    exact ⟨m1, m2, fun q => (by rw [show (compEnvC S (closOf env S.names []) C env).locals = C from rfl] at q; rw [q, hnew] at ho; cases ho), m4, v, o, hk c o ho, hd⟩
  · unfold locC at e
    split at e
    · rename_i hx
      have hx : S.names.lookup x = some .free := by simpa using hx
      have hm := List.all_eq_true.mp hf _ (lookup_mem hx)
      simp only [bne_self_eq_false, Bool.false_or, Bool.and_eq_true, beq_iff_eq] at hm
      obtain ⟨c, hc⟩ := Option.isSome_iff_exists.mp hm.1
      obtain ⟨m, hn, hv⟩ := L.ns
      obtain ⟨d, hd⟩ := lookup_mem_some (closOf_has hc S.names [] hx)
      have hdc := sub x d hd
      rw [hc] at hdc; cases hdc
      rcases hv x v e with ⟨a, _⟩ | ⟨_, c', v', b, ⟨o, ho, hdd⟩, r⟩
      · rw [hm.2] at a; cases a
      · rw [hc] at b; cases b
        exact .inr ⟨.inl (relabel_free L.kind hm.2 hx), c, v', hd, ⟨o, hk c o ho, hdd⟩, r⟩
    · cases e

variable {prog : Program} {w : World} in
theorem compLoop_gen {A : Around} {s : Shared} {R : Result → Shared → Prop} {elt target iter : Expr} {ifs : List Expr} {scope : Scope} {pos : Pos} {it acc : Value} {env : Env} (I : Nat → Shared → Prop)
    (turn : ∀ n s, I n s → wpAny (model prog w) A (pyNext it) (fun r s₁ => match r with
      | none => R (.ok .next) s₁
      | some v => wpAny (model prog w) A (letOwnedTupleGo target it v) (fun _ s₁' => wpAny (model prog w) A (assign target env v) (fun _ s₂ =>
          wpAny (model prog w) A (forIn ifs true fun c r => if r = true then do let ok ← isTrue c env (eval c env); pure (ForInStep.yield ok) else pure (ForInStep.yield r)) (fun ok s₃ =>
            if ok = true then wpAny (model prog w) A (eval elt env) (fun x s₄ =>
              wpAny (model prog w) A (call (.builtin "list.append") [acc, x]) (fun _ s₅ => ∃ m, m < n ∧ I m s₅) (notedBy (model prog w) A env fun e s' => R (.error e) s') s₄) (notedBy (model prog w) A env fun e s' => R (.error e) s') s₃
            else ∃ m, m < n ∧ I m s₃) (notedBy (model prog w) A env fun e s' => R (.error e) s') s₂) (notedBy (model prog w) A env fun e s' => R (.error e) s') s₁') (notedBy (model prog w) A env fun e s' => R (.error e) s') s₁) (notedBy (model prog w) A env fun e s' => R (.error e) s') s)
    (n : Nat) (h : I n s) : codeAny (model prog w) A (.compLoop (.ListComp elt [⟨target, iter, ifs, 0⟩] scope pos) 0 it acc env) R s := by
  refine codeAny_loop rfl I (fun n s hI => ?_) n h
  show wpAny _ A ((compTurn (.ListComp elt [⟨target, iter, ifs, 0⟩] scope pos) 0 it acc env).onRaise (fun x => do noteFrame x env; theTreesLotGoes x)) _ _ s
  refine wpAny_noted ?_
  rw [compTurn_list]
  refine wpAny_bind (wpAny_standAt (wpAny_bind (wpAny_mono (turn n s hI) (fun r s₁ h₁ => ?_) fun _ _ h' => h')))
  cases r with
  | none => exact wpAny_pure h₁
  | some v =>
    refine wpAny_bind (wpAny_mono h₁ (fun _ s₁' h₁' => ?_) fun _ _ h' => h')
    refine wpAny_bind (wpAny_mono h₁' (fun _ s₂ h₂ => wpAny_bind (wpAny_mono h₂ (fun ok s₃ h₃ => ?_) fun _ _ h' => h')) fun _ _ h' => h')
    cases ok with
    | false => exact wpAny_pure ⟨rfl, h₃⟩
    | true => exact wpAny_bind (wpAny_bind (wpAny_mono h₃ (fun x s₄ h₄ => wpAny_bind (wpAny_mono h₄ (fun _ s₅ h₅ => wpAny_pure (wpAny_pure ⟨rfl, h₅⟩)) fun _ _ h' => h')) fun _ _ h' => h'))

/-- the tests of a comprehension: none, or one -/
def TestsW (B : Wd) (n : Nat) (env : Env) (loc : Loc) (ifs : List Expr) (H : List O) (Q : Bool → List O → Prop) : Prop :=
  match ifs with
  | [] => Q true H
  | [c] => TW B n env loc c H Q
  | _ => False

/-- what a comprehension asks -/
def CompOk (B : Wd) (n : Nat) (env : Env) (S : Scope) (elt tgt : Expr) (ifs : List Expr) (Fin : List V → List O → Prop) (v : V) (loc : Loc) (H : List O) : Prop :=
  ∃ (items : List V) (Need : List O → Prop) (I : Nat → List V → List O → Prop), IT B v H items Need ∧ items.length ≤ sizeLine ∧ I 0 [] H ∧ (∀ i acc H, I i acc H → Need H ∧ acc.length ≤ i) ∧
    (∀ i v acc H C, items[i]? = some v → I i acc H → AW B n (compEnvC S (closOf env S.names []) C env) tgt v (locC S loc) H fun loc' => (∀ x v, locC S loc x = some v → loc' x = some v) ∧
      TestsW B n (compEnvC S (closOf env S.names []) C env) loc' ifs H fun b H' => cond b (EW B n (compEnvC S (closOf env S.names []) C env) loc' elt H' fun r H'' => I (i + 1) (acc ++ [r]) H'') (I (i + 1) acc H')) ∧
    (∀ acc H, I items.length acc H → Fin acc H)

theorem SB.add {ρ : List Addr} {s : Shared} {D : Addr} {vs : List V} {vs' : List Value} {m : Nat} (S : SB B ρ H s) (h1 : D ∉ ρ) (h2 : B.hb.get? D = none) (g : s.heap.get? D = some (listOf vs'.toArray m)) (hv : VRs ρ vs vs') : SB B (ρ ++ [D]) (H ++ [.list vs]) s := by
  refine ⟨S.keep, fun b hb => ?_, by simp [S.len], ?_, fun k o' b e e' => ?_, S.tab, S.gens, S.os, S.toks⟩
  · rcases List.mem_append.mp hb with h | h
    · exact S.fresh b h
    · rw [List.mem_singleton.mp h]; exact h2
  · rw [List.nodup_append]
    refine ⟨S.nodup, by simp, fun x hx y hy => ?_⟩
    rw [List.mem_singleton.mp hy]; rintro rfl; exact h1 hx
  · by_cases hlt : k < H.length
    · rw [List.getElem?_append_left hlt] at e
      rw [List.getElem?_append_left (by rw [S.len]; exact hlt)] at e'
      exact (S.objs k o' b e e').at fun ob e => e
    · have hk1 : k < (H ++ [O.list vs]).length := (List.getElem?_eq_some_iff.mp e).1
      have hk2 : k = H.length := by simp at hk1; omega
      subst hk2
      rw [List.getElem?_append_right (Nat.le_refl _)] at e
      rw [List.getElem?_append_right (by rw [S.len]; exact Nat.le_refl _), S.len] at e'
      simp at e e'
      subst e e'
      exact ⟨vs', m, g, hv.mono⟩

theorem comp_core {elt tgt iter : Expr} {ifs : List Expr} {S : Scope} {pos : Pos} {A : Around} {E : Value → Shared → Prop} {s2 : Shared} {ρ : List Addr} {it : Addr} {items : List V} {Need : List O → Prop} {J : Nat → Heap → Prop}
    {I : Nat → List V → List O → Prop} {RR : Value → Addr → Result → Shared → Prop} (T : B.There) (hA : AOk n A) (S2 : SB B ρ H s2) (L2 : LocR B env loc ρ s2.heap) (W : Itr B ρ it items Need J) (hJ0 : J 0 s2.heap)
    (hit : it ∉ ρ ∧ it ≠ B.P ∧ B.hb.get? it = none ∧ ¬ Own env it)
    (hkind : S.kind = .function) (hf : freesOk S env = true) (hnm : namesOk S = true)
    (hsz : items.length ≤ sizeLine) (hI0 : I 0 [] H) (hNeed : ∀ i acc H, I i acc H → Need H ∧ acc.length ≤ i)
    (hTurn : ∀ i v acc H C, items[i]? = some v → I i acc H → AW B n (compEnvC S (closOf env S.names []) C env) tgt v (locC S loc) H fun loc' => (∀ x v, locC S loc x = some v → loc' x = some v) ∧
      TestsW B n (compEnvC S (closOf env S.names []) C env) loc' ifs H fun b H' => cond b (EW B n (compEnvC S (closOf env S.names []) C env) loc' elt H' fun r H'' => I (i + 1) (acc ++ [r]) H'') (I (i + 1) acc H'))
    (hRR : ∀ D C acc H' ρ' s' m', I items.length acc H' → SB B (ρ' ++ [D]) (H' ++ [.list acc]) s' → StepX B (fun a => a = it) ρ (ρ' ++ [D]) s2 s' → s'.heap.Ns C m' → C ∉ ρ' ++ [D] → C ≠ B.P → B.hb.get? C = none → s2.heap.get? C = none → RR (.ref D) C (.ok .next) s') :
    wpAny B.M A (newList []) (fun acc s₃ => wpAny B.M A (newFunctionEnv S env.globals (closOf env S.names []) [] env.qual none .none (some env)) (fun cenv s₄ =>
      codeAny B.M A (.compStart (.ListComp elt [⟨tgt, iter, ifs, 0⟩] S pos) 0 (.ref it) acc { cenv with scope := relabel S env }) (RR acc cenv.locals) s₄) E s₃) E s2 := by
  have hcell : ∀ y ∈ S.names, y.2 ≠ .cell := fun y hy => by
    have := List.all_eq_true.mp hnm y hy
    simp at this
    exact this.1.1
  refine wpAny_newObj_type (wpAny_newFunctionEnv hcell (by intro y hy; simp at hy) (fun h₁ hns₁ hsb₁ => ?_) hkind)
  dsimp only at hns₁ hsb₁ ⊢
  generalize hH2 : s2.heap.push { cls := .type "list", dict := none, data := .seq ([] : List Value).toArray } = H2 at hns₁ hsb₁ ⊢
  have hC : H2.objs.size = s2.heap.objs.size + 1 := by rw [← hH2, Heap.size_push]
  have hDC : s2.heap.objs.size ≠ H2.objs.size := by rw [hC]; exact Nat.ne_of_lt (Nat.lt_succ_self _)
  have old : ∀ b o, s2.heap.get? b = some o → h₁.get? b = some o := fun b o e => hsb₁.extBut b o (by rw [hC]; exact Nat.ne_of_lt (Nat.lt_succ_of_lt (Heap.lt_size e))) (Heap.get?_push_of_some _ (hH2 ▸ Heap.get?_push_of_some _ e))
  have hacc : h₁.PlainList s2.heap.objs.size #[] := ⟨_, hsb₁.extBut _ _ hDC (Heap.get?_push_of_some _ (hH2 ▸ Heap.get?_push_size _ rfl))⟩
  generalize hDD : s2.heap.objs.size = D at *
  generalize hCC : H2.objs.size = C at *
  have hDn : s2.heap.get? D = none := Heap.get?_none_of_le (by omega)
  have hCn : s2.heap.get? C = none := Heap.get?_none_of_le (by omega)
  have notin : ∀ a, s2.heap.get? a = none → a ∉ ρ ∧ a ≠ B.P ∧ B.hb.get? a = none := fun a ha => by
    have hP : a ≠ B.P := fun e => by obtain ⟨ob, e'⟩ := S2.tab.there; rw [← e, ha] at e'; cases e'
    refine ⟨fun h => (by obtain ⟨ob, e⟩ := S2.mem h; rw [ha] at e; cases e), hP, ?_⟩
    cases q : B.hb.get? a with
    | none => rfl
    | some o => rw [S2.keep a o q (np hP)] at ha; cases ha
  obtain ⟨d1, d2, d3⟩ := notin D hDn
  obtain ⟨c1, c2, c3⟩ := notin C hCn
  obtain ⟨i1, i2, i3, i4⟩ := hit
  have hitd : it ≠ D := fun q => by obtain ⟨o, _, e, _⟩ := W.there hJ0; rw [q, hDn] at e; cases e
  have hitc : it ≠ C := fun q => by obtain ⟨o, _, e, _⟩ := W.there hJ0; rw [q, hCn] at e; cases e
  have S4 : SB B ρ H { s2 with heap := h₁, toks := s2.toks + ([] : List (Str × Value)).length } := S2.keeps old (by have := S2.toks; simp; omega)
  have L4 : LocR B (compEnvC S (closOf env S.names []) C env) (locC S loc) ρ h₁ := L2.comp hkind hf old hns₁ hCn c1 c2 c3
  have hJ4 : J 0 h₁ := W.frame hJ0 (fun o e => old it o e) S4.keep
  have loop : ∀ s₃ : Shared, s₃ = { s2 with heap := h₁, toks := s2.toks + ([] : List (Str × Value)).length } →
      codeAny B.M A (.compLoop (.ListComp elt [⟨tgt, iter, ifs, 0⟩] S pos) 0 (.ref it) (.ref D) (compEnvC S (closOf env S.names []) C env)) (RR (.ref D) C) s₃ := by
    rintro s₃ rfl
    refine compLoop_gen (fun k s' => ∃ i acc H' ρ' more ys, ρ' = ρ ++ more ∧ k = items.length + 1 - i ∧ i ≤ items.length ∧ I i acc H' ∧ J i s'.heap ∧ SB B ρ' H' s' ∧ LocR B (compEnvC S (closOf env S.names []) C env) (locC S loc) ρ' s'.heap ∧
      it ∉ ρ' ∧ D ∉ ρ' ∧ C ∉ ρ' ∧ s'.heap.PlainList D ys ∧ VRs ρ' acc ys.toList ∧ StepX B (fun a => a = C ∨ a = it ∨ a = D) ρ ρ' s2 s') ?_ (items.length + 1)
      ⟨0, [], H, ρ, [], #[], by simp, rfl, Nat.zero_le _, hI0, hJ4, S4, L4, i1, d1, c1, hacc, .nil, (Step.keeps (tk := s2.toks + ([] : List (Str × Value)).length) old).toX⟩
    rintro k s' ⟨i, acc, H', ρ', more, ys, hρ', rfl, hi, hI, hJ, S', L', n1, n2, n3, hD, hV, st'⟩
    have exX : ∀ {h' : Heap}, (∃ o, h'.get? it = some o) → (∃ o, h'.get? D = some o) → (∃ o, h'.get? C = some o) → ∀ a, (a = C ∨ a = it ∨ a = D) → ∃ o, h'.get? a = some o := fun e1 e2 e3 a h => by
      rcases h with rfl | rfl | rfl
      · exact e3
      · exact e1
      · exact e2
    have hlocC : (compEnvC S (closOf env S.names []) C env).locals = C := rfl
    have ownC : ∃ o, s'.heap.get? C = some o := L'.owned C (.inl rfl)
    have ownI : ∃ o, s'.heap.get? it = some o := by obtain ⟨o, _, e, _⟩ := W.there hJ; exact ⟨o, e⟩
    have ownD : ∃ o, s'.heap.get? D = some o := let ⟨m, e⟩ := hD; ⟨_, e⟩
    have notOwn : ∀ a, a = it ∨ a = D → ¬ Own (compEnvC S (closOf env S.names []) C env) a := fun a h hO => by
      rcases hO with hO | ⟨x, hx⟩
      · rw [hlocC] at hO
        rcases h with rfl | rfl
        · exact hitc hO
        · exact hDC hO
      · have hx' : env.cells.lookup x = some a := closOf_mem S.names [] hf (fun _ _ m => by cases m) x a (mem_of_lookup hx)
        rcases h with rfl | rfl
        · exact i4 (.inr ⟨x, hx'⟩)
        · obtain ⟨_, _, _, _, v, o, ho, _⟩ := L2.cells x a hx'; rw [hDn] at ho; cases ho
    have sbk : ∀ {h' : Heap} {tk : Nat}, (∀ b o, b ≠ it → s'.heap.get? b = some o → h'.get? b = some o) → B.t0 ≤ tk → SB B ρ' H' { s' with heap := h', toks := tk } := fun {h' tk} hk ht =>
      S'.other T (X := (· = it)) (fun a e => e ▸ ⟨n1, i3⟩) (fun b o nb e => hk b o nb e) ht
    have lk : ∀ {h' : Heap}, (∀ b o, b ≠ it → s'.heap.get? b = some o → h'.get? b = some o) → LocR B (compEnvC S (closOf env S.names []) C env) (locC S loc) ρ' h' := fun {h'} hk => L'.at fun a o ho e => hk a o (fun q => notOwn a (.inl q) ho) e
    have stk : ∀ {h' : Heap} {tk : Nat}, (∀ b o, b ≠ it → s'.heap.get? b = some o → h'.get? b = some o) → StepX B (fun a => a = C ∨ a = it ∨ a = D) ρ' ρ' s' { s' with heap := h', toks := tk } := fun {h' tk} hk =>
      ⟨⟨[], by simp, by simp⟩, fun a o e _ _ nx => hk a o (fun q => nx (.inr (.inl q))) e⟩
    cases hv : items[i]? with
    | none =>
      have hil : i = items.length := by have := List.getElem?_eq_none_iff.mp hv; omega
      subst hil
      refine W.done hA.h hρ' S' (hNeed _ _ _ hI).1 hJ fun h' tk hk ht => ?_
      obtain ⟨md, hd⟩ := hD
      obtain ⟨m', hns', _⟩ := (lk hk).ns
      have stt := st'.trans S' (exX ownI ownD ownC) (stk (tk := tk) hk)
      refine hRR D C acc H' ρ' _ m' hI ((sbk hk ht).add (vs' := ys.toList) (m := md) n2 d3 (by simpa using hk D _ (Ne.symm hitd) hd) hV) ⟨?_, ?_⟩ hns' (fun h => ?_) c2 c3 hCn
      · obtain ⟨mm, e, hm⟩ := stt.ext
        refine ⟨mm ++ [D], by rw [e]; simp, fun a ha => ?_⟩
        rcases List.mem_append.mp ha with h | h
        · exact hm a h
        · rw [List.mem_singleton.mp h]; exact hDn
      · refine fun a o e na nP nx => stt.keep a o e na nP fun h => ?_
        rcases h with rfl | rfl | rfl
        · rw [hCn] at e; cases e
        · exact nx rfl
        · rw [hDn] at e; cases e
      · rcases List.mem_append.mp h with h | h
        · exact n3 h
        · exact hDC (List.mem_singleton.mp h).symm
    | some v =>
      have hlt : i < items.length := (List.getElem?_eq_some_iff.mp hv).1
      refine W.next hA.h hρ' S' (hNeed _ _ _ hI).1 hJ hv fun v' h' tk hv' hJ' hk ht => ?_
      refine W.lets (s := { s' with heap := h', toks := tk }) hJ' ?_
      refine hTurn i v acc H' C hv hI A _ _ ρ' v' _ hA (sbk hk ht) (lk hk) hv' fun l3 s3 q3 S3 L3 st3 => ?_
      obtain ⟨hl3, q3⟩ := q3
      have stD : ∀ o, s'.heap.get? D = some o → s3.heap.get? D = some o := fun o e => st3.keep D o (hk D o (Ne.symm hitd) e) n2 (np d2) (fun q => hDC q)
      have itk3 : ∀ o, h'.get? it = some o → s3.heap.get? it = some o := fun o e => st3.keep it o e n1 (np i2) (fun q => hitc q)
      have hI' : ∃ o, h'.get? it = some o := by obtain ⟨o, _, e, _⟩ := W.there hJ'; exact ⟨o, e⟩
      have st13 : StepX B (fun a => a = C ∨ a = it ∨ a = D) ρ ρ' s2 s3 :=
        (st'.trans S' (exX ownI ownD ownC) (stk (tk := tk) hk)).trans (sbk hk ht) (exX hI' (let ⟨o, e⟩ := ownD; ⟨o, hk D o (Ne.symm hitd) e⟩) ((lk hk).owned C (.inl rfl))) (st3.wide fun a e => Or.inl e)
      -- the tests
      have tests : ∀ QQ : Bool → Shared → Prop, (∀ b H5 ρ5 s5, (cond b (EW B n (compEnvC S (closOf env S.names []) C env) l3 elt H5 fun r H'' => I (i + 1) (acc ++ [r]) H'') (I (i + 1) acc H5)) → SB B ρ5 H5 s5 → Step B ρ' ρ5 s3 s5 → QQ b s5) →
          wpAny B.M A (forIn ifs true fun c r => if r = true then do let ok ← isTrue c (compEnvC S (closOf env S.names []) C env) (eval c (compEnvC S (closOf env S.names []) C env)); pure (ForInStep.yield ok) else pure (ForInStep.yield r)) QQ
            (notedBy B.M A (compEnvC S (closOf env S.names []) C env) fun e s' => RR (.ref D) C (.error e) s') s3 := fun QQ hQ => by
        match ifs, q3 with
        | [], q3 => exact wpAny_tests_nil (hQ true H' ρ' s3 q3 S3 Step.refl)
        | [c], q3 => exact wpAny_tests_one (q3 A _ s3 ρ' _ hA S3 L3 fun b H5 ρ5 s5 q5 S5 st5 => hQ b H5 ρ5 s5 q5 S5 st5)
      refine tests _ fun b H5 ρ5 s5 q5 S5 st5 => ?_
      obtain ⟨m5, hm5, hm5'⟩ := st5.ext
      have n1' : it ∉ ρ5 := fun h => by
        rw [hm5] at h
        rcases List.mem_append.mp h with h | h
        · exact n1 h
        · obtain ⟨o, e⟩ := hI'; have := hm5' it h; rw [itk3 o e] at this; cases this
      have n2' : D ∉ ρ5 := fun h => by
        rw [hm5] at h
        rcases List.mem_append.mp h with h | h
        · exact n2 h
        · obtain ⟨o, e⟩ := ownD; have := hm5' D h; rw [stD o e] at this; cases this
      have n3' : C ∉ ρ5 := fun h => by
        rw [hm5] at h
        rcases List.mem_append.mp h with h | h
        · exact n3 h
        · obtain ⟨o, e⟩ := L3.owned C (.inl rfl); have := hm5' C h; rw [e] at this; cases this
      have itk5 : ∀ o, h'.get? it = some o → s5.heap.get? it = some o := fun o e => st5.keep it o (itk3 o e) n1 (np i2)
      have stD5 : ∀ o, s'.heap.get? D = some o → s5.heap.get? D = some o := fun o e => st5.keep D o (stD o e) n2 (np d2)
      have L5 := L3.step st5
      have st15 : StepX B (fun a => a = C ∨ a = it ∨ a = D) ρ ρ5 s2 s5 := st13.trans S3 (exX (let ⟨o, e⟩ := hI'; ⟨o, itk3 o e⟩) (let ⟨o, e⟩ := ownD; ⟨o, stD o e⟩) (L3.owned C (.inl rfl))) st5.toX
      cases b with
      | false =>
        simp only [Bool.false_eq_true, if_false]
        exact ⟨items.length + 1 - (i + 1), by omega, i + 1, acc, H5, ρ5, more ++ m5, ys, by rw [hm5, hρ']; simp, rfl, hlt, q5, W.frame hJ' itk5 S5.keep, S5, L5.less hl3, n1', n2', n3', hD.at stD5, st5.monos hV, st15⟩
      | true =>
        simp only [if_true]
        refine q5 A _ s5 ρ5 _ hA S5 L5 fun r r' H6 ρ6 s6 q6 vr S6 st6 => ?_
        obtain ⟨m6, hm6, hm6'⟩ := st6.ext
        have itk6 : ∀ o, h'.get? it = some o → s6.heap.get? it = some o := fun o e => st6.keep it o (itk5 o e) n1' (np i2)
        have stD6 : ∀ o, s'.heap.get? D = some o → s6.heap.get? D = some o := fun o e => st6.keep D o (stD5 o e) n2' (np d2)
        have n1'' : it ∉ ρ6 := fun h => by
          rw [hm6] at h
          rcases List.mem_append.mp h with h | h
          · exact n1' h
          · obtain ⟨o, e⟩ := hI'; have := hm6' it h; rw [itk5 o e] at this; cases this
        have n2'' : D ∉ ρ6 := fun h => by
          rw [hm6] at h
          rcases List.mem_append.mp h with h | h
          · exact n2' h
          · obtain ⟨o, e⟩ := ownD; have := hm6' D h; rw [stD5 o e] at this; cases this
        have n3'' : C ∉ ρ6 := fun h => by
          rw [hm6] at h
          rcases List.mem_append.mp h with h | h
          · exact n3' h
          · obtain ⟨o, e⟩ := L5.owned C (.inl rfl); have := hm6' C h; rw [e] at this; cases this
        have L6 := L5.step st6
        have V6 : VRs ρ6 acc ys.toList := st6.monos (st5.monos hV)
        have hys : ys.size ≤ sizeLine := by
          have h1 := V6.length
          have h2 := (hNeed _ _ _ hI).2
          have h3 : ys.toList.length = ys.size := by simp
          omega
        refine wpAny_list_append_plain (hsz := hys) (hD.at stD6) fun h7 hl7 hs7 => ?_
        have st16 : StepX B (fun a => a = C ∨ a = it ∨ a = D) ρ ρ6 s2 s6 := st15.trans S5 (exX (let ⟨o, e⟩ := hI'; ⟨o, itk5 o e⟩) (let ⟨o, e⟩ := ownD; ⟨o, stD5 o e⟩) (L5.owned C (.inl rfl))) st6.toX
        refine ⟨items.length + 1 - (i + 1), by omega, i + 1, acc ++ [r], H6, ρ6, more ++ m5 ++ m6, ys.push r', by rw [hm6, hm5, hρ']; simp, rfl, hlt, q6, ?_, ?_, ?_, n1'', n2'', n3'', hl7, ?_, ?_⟩
        · exact W.frame hJ' (fun o e => hs7.extBut it o hitd (itk6 o e)) fun a o e nP => hs7.extBut a o (fun q => by subst q; rw [d3] at e; cases e) (S6.keep a o e nP)
        · exact S6.other T (tk := s6.toks) (X := (· = D)) (fun a e => e ▸ ⟨n2'', d3⟩) (fun b o nb e => hs7.extBut b o nb e) S6.toks
        · exact (L6.at fun a o ho e => hs7.extBut a o (fun q => notOwn a (.inr q) ho) e).less hl3
        · rw [Array.toList_push]; exact V6.append (.one vr)
        · exact st16.trans S6 (exX (let ⟨o, e⟩ := hI'; ⟨o, itk6 o e⟩) (let ⟨o, e⟩ := ownD; ⟨o, stD6 o e⟩) (L6.owned C (.inl rfl))) ⟨⟨[], by simp, by simp⟩, fun a o e _ _ nx => hs7.extBut a o (fun q => nx (.inr (.inr q))) e⟩
  exact codeAny_compStart_list (loop _ rfl) (W.self hA.h hJ4 (loop _ rfl))

theorem EW.comp {elt tgt iter : Expr} {ifs : List Expr} {S : Scope} {pos : Pos} {Q : V → List O → Prop} (T : B.There)
    (h : EW B n env loc iter H fun v H1 => CompOk B n env S elt tgt ifs (fun acc H' => Q (.ref H'.length) (H' ++ [.list acc])) v loc H1)
    (hkind : S.kind = .function := by rfl) (hf : freesOk S env = true := by rfl) (hnm : namesOk S = true := by rfl) (hs : ∀ x, foldedSetIterable iter env x = pure x := by intro _; rfl) :
    EW B n env loc (.ListComp elt [⟨tgt, iter, ifs, 0⟩] S pos) H Q := fun A E s ρ QQ hA SS L kk => by
  rw [eval_ListComp]
  have hnames : ∀ x ∈ S.names, x.2 = .local → S.names.lookup x.1 = some .local := fun x hx hl => by
    have := List.all_eq_true.mp hnm x hx
    simp [hl] at this
    exact this
  refine wpAny_comprehension_free (use := none) rfl hs (closOf_is hf) hkind hnames (h A E s ρ _ hA SS L fun v v' H1 ρ1 s1 q vv S1 st1 => ?_)
  obtain ⟨items, Need, I, hIT, hsz, hI0, hNeed, hTurn, hFin⟩ := q
  refine hIT.2 A E s1 ρ1 v' _ hA.h S1 vv fun it J s2 W hJ0 hnew S2 st2 => ?_
  have L1 := L.step st1
  have L2 := L1.step st2
  have nit : it ∉ ρ1 ∧ it ≠ B.P ∧ B.hb.get? it = none ∧ ¬ Own env it := by
    have hP : it ≠ B.P := fun e => by obtain ⟨ob, e'⟩ := S1.tab.there; rw [← e, hnew] at e'; cases e'
    refine ⟨fun h => (by obtain ⟨ob, e⟩ := S1.mem h; rw [hnew] at e; cases e), hP, ?_, fun h => (by obtain ⟨o, e⟩ := L1.owned it h; rw [hnew] at e; cases e)⟩
    cases q : B.hb.get? it with
    | none => rfl
    | some o => rw [S1.keep it o q (np hP)] at hnew; cases hnew
  refine comp_core (RR := fun acc C => compPost B.M A E none QQ acc C) T hA S2 L2 W hJ0 nit hkind hf hnm hsz hI0 hNeed hTurn ?_
  intro D C acc H' ρ' s' m' hI S' st' hns hC1 hC2 hC3 hC4
  refine ⟨m', hns, fun h' hs' => ?_⟩
  have S'' : SB B (ρ' ++ [D]) (H' ++ [.list acc]) { s' with heap := h' } := S'.other T (tk := s'.toks) (X := (· = C)) (fun a e => e ▸ ⟨hC1, hC3⟩) (fun b o nb e => hs'.extBut b o nb e) S'.toks
  have st3 : Step B ρ1 (ρ' ++ [D]) s1 { s' with heap := h' } := by
    obtain ⟨mm, e, hm⟩ := st'.ext
    have back : ∀ a, s2.heap.get? a = none → s1.heap.get? a = none := fun a ha => by
      cases q : s1.heap.get? a with
      | none => rfl
      | some o =>
        by_cases hr : a ∈ ρ1
        · obtain ⟨ob, e⟩ := S2.mem hr; rw [ha] at e; cases e
        · by_cases hP : a = B.P
          · subst hP; obtain ⟨ob, e⟩ := S2.tab.there; rw [ha] at e; cases e
          · rw [st2.keep a o q hr (np hP)] at ha; cases ha
    refine ⟨⟨mm, e, fun a ha => back a (hm a ha)⟩, fun a o e na nP => ?_⟩
    have h2 := st2.keep a o e na nP
    refine hs'.extBut a o (fun q => ?_) (st'.keep a o h2 na nP fun q => ?_)
    · subst q; rw [hC4] at h2; cases h2
    · subst q; rw [hnew] at e; cases e
  have hl : ρ'.length = H'.length := by have := S'.len; simp at this; exact this
  exact kk _ _ _ (ρ' ++ [D]) _ (hFin acc H' hI) ⟨D, by rw [← hl]; simp, rfl⟩ S'' (st1.trans S1 st3)

end
end Mine

end
section
open PySem PySem.W PySem.Calls PyProof.Rows
set_option maxRecDepth 100000
namespace Mine

/-! the search for an unsafe sign -/
def reCode : Array Nat := #[14, 17, 4, 1, 1, 21, 9, 0, 604043296, 1, 0, 0, 0, 0, 0, 8, 4, 0, 13, 14, 21, 9, 0, 604043296, 1, 0, 0, 0, 0, 0, 8, 4, 0, 1]

/-- the signs that quote leaves bare -/
def safeCp (c : Nat) : Bool := (c < 256 && (reCode.getD (5 + 1 + (1 + c / 32)) 0).testBit (c % 32)) || Sre.isWord c

theorem inSet_end (c : Nat) (seen : Sre.Seen) (b : Bool) (s1 s2 s3 : Sre.Seen) : ∃ seen', (if b = true then Except.ok (!true, s1)
    else do
      let y ← Except.ok (Sre.isWord c != false)
      if y = true then pure (!true, s2) else Except.ok (!!true, s3)) = (Except.ok (!(b || Sre.isWord c), seen') : Except String (Bool × Sre.Seen)) := by
  cases b
  · cases hw : Sre.isWord c
    · exact ⟨s3, rfl⟩
    · exact ⟨s2, rfl⟩
  · exact ⟨s1, rfl⟩

theorem inSet_5 (c : Nat) (seen : Sre.Seen) : ∃ seen', Sre.inSet reCode c 34 5 true seen = .ok (!safeCp c, seen') := by
  unfold Sre.inSet
  dsimp only
  rw [show Sre.ops[reCode.getD (5+0) 0]? = some .NEGATE from rfl]
  dsimp only
  unfold Sre.inSet
  dsimp only
  rw [show Sre.ops[reCode.getD (5+1+0) 0]? = some .CHARSET from rfl]
  dsimp only
  unfold Sre.inSet
  dsimp only
  rw [show Sre.ops[reCode.getD (5+1+9+0) 0]? = some .CATEGORY from rfl]
  dsimp only
  rw [show reCode.getD (5+1+9+1) 0 = 4 from rfl]
  rw [show Sre.category 4 c = .ok (Sre.isWord c != false) from rfl]
  unfold Sre.inSet
  dsimp only
  rw [show Sre.ops[reCode.getD (5+1+9+2+0) 0]? = some .FAILURE from rfl]
  dsimp only
  exact inSet_end c seen _ _ _ _

theorem words_same (k : Nat) (h : k < 8) : reCode.getD (20 + 1 + (1 + k)) 0 = reCode.getD (5 + 1 + (1 + k)) 0 := by
  match k, h with
  | 0, _ | 1, _ | 2, _ | 3, _ | 4, _ | 5, _ | 6, _ | 7, _ => rfl
  | k + 8, h => omega

theorem inSet_20 (c : Nat) (seen : Sre.Seen) : ∃ seen', Sre.inSet reCode c 34 20 true seen = .ok (!safeCp c, seen') := by
  unfold Sre.inSet
  dsimp only
  rw [show Sre.ops[reCode.getD (20+0) 0]? = some .NEGATE from rfl]
  dsimp only
  unfold Sre.inSet
  dsimp only
  rw [show Sre.ops[reCode.getD (20+1+0) 0]? = some .CHARSET from rfl]
  dsimp only
  unfold Sre.inSet
  dsimp only
  rw [show Sre.ops[reCode.getD (20+1+9+0) 0]? = some .CATEGORY from rfl]
  dsimp only
  rw [show reCode.getD (20+1+9+1) 0 = 4 from rfl]
  rw [show Sre.category 4 c = .ok (Sre.isWord c != false) from rfl]
  unfold Sre.inSet
  dsimp only
  rw [show Sre.ops[reCode.getD (20+1+9+2+0) 0]? = some .FAILURE from rfl]
  dsimp only
  have hb : (decide (c < 256) && (reCode.getD (20 + 1 + (1 + c / 32)) 0).testBit (c % 32)) = (decide (c < 256) && (reCode.getD (5 + 1 + (1 + c / 32)) 0).testBit (c % 32)) := by
    by_cases h : c < 256
    · rw [words_same (c / 32) (by omega)]
    · simp [h]
  rw [hb]
  exact inSet_end c seen _ _ _ _

def m0 (text : Array Nat) (lim : Nat) : Sre.M :=
  { code := reCode, text, lim, start := 0, lastStart := lim, pc := 18, pos := 0, handed := 0, marks := #[], mustAdvance := false, seen := ({} : Sre.Seen).add 14 }

theorem forSearch_is (text : Array Nat) (lim : Nat) : Sre.forSearch reCode text 0 0 lim false = if (decide (0 > lim) || decide (lim - 0 < 1)) = true then { m0 text lim with lastStart := 0 }.say false else (m0 text lim).attemptFrom 0 true := by
  rfl

theorem admitted_is (m : Sre.M) (hc : m.code = reCode) : ∀ fuel s seen, ∃ r seen', Sre.M.admitted m fuel s seen = .ok (r, seen') ∧
    match r with
    | some k => s ≤ k ∧ k < m.lim ∧ safeCp (m.text.getD k 0) = false
    | none => ∀ k, s ≤ k → k < m.lim → k < s + fuel → safeCp (m.text.getD k 0) = true
  | 0, s, seen => ⟨none, seen, rfl, fun k h1 h2 h3 => by omega⟩
  | fuel + 1, s, seen => by
    unfold Sre.M.admitted
    by_cases h : s ≥ m.lim
    · rw [if_pos h]; exact ⟨none, seen, rfl, fun k h1 h2 h3 => by omega⟩
    · rw [if_neg h, hc]
      obtain ⟨seen', e⟩ := inSet_5 (m.text.getD s 0) seen
      rw [show reCode.size = 34 from rfl, e]
      cases hs : safeCp (m.text.getD s 0) with
      | false => exact ⟨some s, seen', rfl, Nat.le_refl _, by omega, hs⟩
      | true =>
        obtain ⟨r, seen2, e2, hr⟩ := admitted_is m hc fuel (s + 1) seen'
        refine ⟨r, seen2, e2, ?_⟩
        cases r with
        | some k => exact ⟨by have := hr.1; omega, hr.2⟩
        | none =>
          intro k h1 h2 h3
          by_cases hk : k = s
          · subst hk; exact hs
          · exact hr k (by omega) h2 (by omega)

/-- is there a sign that has to be quoted? -/
def unsafe? (x : Str) : Bool := x.cps.toList.any fun c => !safeCp c

theorem accepts_18 (c : Nat) (seen : Sre.Seen) : ∃ seen', Sre.accepts reCode 18 c seen = .ok (!safeCp c, seen') := inSet_20 c seen

theorem search_run (x : Str) (hx : 0 < x.cps.size) : ∃ m' : Sre.M, (Sre.forSearch reCode x.cps 0 0 x.cps.size false).runFor 4 = m' ∧ m'.outcome = some (if unsafe? x then .matched else .failed) := by
  rw [forSearch_is]
  rw [if_neg (by simp only [Bool.or_eq_true, decide_eq_true_eq]; omega)]
  have hadm := admitted_is (m0 x.cps x.cps.size) rfl (x.cps.size + 1 - 0) 0 (m0 x.cps x.cps.size).seen
  obtain ⟨r, seen', e, hr⟩ := hadm
  have hat : (m0 x.cps x.cps.size).attemptFrom 0 true = match Sre.M.admitted (m0 x.cps x.cps.size) (x.cps.size + 1 - 0) 0 (m0 x.cps x.cps.size).seen with
    | .ok (some s, seen) => { m0 x.cps x.cps.size with mustAdvance := false, seen }.attemptAt s true
    | .ok (none, seen) => { m0 x.cps x.cps.size with seen }.say false
    | .error why => (m0 x.cps x.cps.size).stick why := rfl
  rw [hat, e]
  cases r with
  | none =>
    refine ⟨_, rfl, ?_⟩
    have hu : unsafe? x = false := by
      unfold unsafe?
      rw [List.any_eq_false]
      intro c hc
      obtain ⟨k, hk, rfl⟩ := List.getElem_of_mem hc
      have hk' : k < x.cps.size := by simpa using hk
      have := hr k (Nat.zero_le _) hk' (by omega)
      simp only [m0] at this
      rw [Array.getD, dif_pos hk'] at this
      simpa using this
    rw [hu]
    rfl
  | some k =>
    obtain ⟨_, hk, hs⟩ := hr
    have hk' : k < x.cps.size := hk
    have hu : unsafe? x = true := by
      unfold unsafe?
      rw [List.any_eq_true]
      simp only [m0] at hs
      rw [Array.getD, dif_pos hk'] at hs
      exact ⟨x.cps[k], by simp, by simpa using hs⟩
    rw [hu]
    refine ⟨_, rfl, ?_⟩
    obtain ⟨seen2, e2⟩ := accepts_18 (x.cps.getD k 0) (seen'.add 13)
    rw [show safeCp (x.cps.getD k 0) = false from hs] at e2
    have h1 : (({ m0 x.cps x.cps.size with mustAdvance := false, seen := seen' } : Sre.M).attemptAt k true).step =
        { (({ m0 x.cps x.cps.size with mustAdvance := false, seen := seen' } : Sre.M).attemptAt k true) with seen := seen2, pc := 33, pos := k + 1 } := by
      have : (({ m0 x.cps x.cps.size with mustAdvance := false, seen := seen' } : Sre.M).attemptAt k true).step = (if k ≥ x.cps.size then ({ (({ m0 x.cps x.cps.size with mustAdvance := false, seen := seen' } : Sre.M).attemptAt k true) with seen := seen'.add 13 } : Sre.M).say false else
          match Sre.accepts reCode 18 (x.cps.getD k 0) (seen'.add 13) with
          | .error why => ({ (({ m0 x.cps x.cps.size with mustAdvance := false, seen := seen' } : Sre.M).attemptAt k true) with seen := seen'.add 13 } : Sre.M).stick why
          | .ok (false, seen) => ({ (({ m0 x.cps x.cps.size with mustAdvance := false, seen := seen' } : Sre.M).attemptAt k true) with seen } : Sre.M).say false
          | .ok (true, seen) => { (({ m0 x.cps x.cps.size with mustAdvance := false, seen := seen' } : Sre.M).attemptAt k true) with seen, pc := 33, pos := k + 1 }) := rfl
      rw [this, if_neg (by omega), e2]
      rfl
    have h4 : ∀ m : Sre.M, m.outcome = none → m.runFor 4 = m.step.runFor 3 := fun m hm => by
      show (if m.outcome.isSome then m else m.step.runFor 3) = _
      rw [hm]; rfl
    show (Sre.M.runFor 4 (({ m0 x.cps x.cps.size with mustAdvance := false, seen := seen' } : Sre.M).attemptAt k true)).outcome = _
    rw [h4 _ rfl, h1]
    rfl

end Mine

end
section
open PySem PySem.W PySem.Calls PyProof.Rows
set_option maxRecDepth 100000
namespace Mine
open PySem.Builtin PySem.Builtin.Re

theorem entry_search : entryFor table "re.Pattern.search" = some Builtin.«re.Pattern.search» := entryFor_of_tree (by kernel_rfl)
theorem sub_module : isSubtype (.type "re.Pattern") (.type "module") = pure false := by rw [isSubtype_type]; kernel_rfl
theorem check_args (a b : Value) : ∃ sig, Manifest.signature? "re.Pattern.search" = some sig ∧ Bind.checkArgs "re.Pattern.search" { sig with full := s!"{Bind.lastOf "re.Pattern"}.{Bind.lastOf "re.Pattern.search"}" } ⟨[a, b], []⟩ = pure () := by
  refine ⟨_, (by kernel_rfl : Manifest.signature? "re.Pattern.search" = some ((Manifest.signature? "re.Pattern.search").get (by decide +kernel))), ?_⟩
  kernel_rfl

theorem check_search {prog : Program} {w : World} {A : Around} {E : Value → Shared → Prop} {s : Shared} {p : Addr} {x : Str} {t : Tok} {op : Obj} {fs : Array Value} {Q : Unit → Shared → Prop} (hp : s.heap.get? p = some op) (hc : op.cls = .type "re.Pattern") (hd : op.data = .fields fs)
    (q : Q () s) : wpAny (model prog w) A (checkBoundCall "re.Pattern.search" ⟨[.ref p, .str x t], []⟩) Q E s := by
  obtain ⟨sig, hsig, hca⟩ := check_args (.ref p) (.str x t)
  have hk : builtinKind "re.Pattern.search" = some .method := by decide +kernel
  have hv : Manifest.varargsMethods.contains "re.Pattern.search" = false := by decide +kernel
  unfold checkBoundCall
  rw [hsig, hk]
  refine wpAny_bind (m := isInstance (.ref p) (.type "module")) (wpAny_isInstance (T := "re.Pattern") ⟨op, hp, hc⟩ sub_module ?_)
  rw [hv]
  show wpAny _ A (isType (.ref p) >>= _) Q E s
  refine wpAny_bind ?_
  show wpAny _ A (loadPart p (some headPart) >>= fun o => pure (match o.data with | .cls _ => true | _ => false)) _ _ s
  refine wpAny_bind (wpAny_loadPart' hp ?_)
  rw [hd]
  refine wpAny_pure ?_
  show wpAny _ A (typeOf (.ref p) >>= _) _ _ s
  refine wpAny_bind (wpAny_typeOf (T := "re.Pattern") ⟨_, hp, hc⟩ ?_)
  exact wpAny_of_eq hca q

theorem named_search (v : Value) : reNamed "re.Pattern.search" "search" ["string", "pos", "endpos"] 1 [v] [] = pure [some v, none, none] := by kernel_rfl

/-- the bound method: its pattern, and the words of its code -/
structure ReAt (h : Heap) (f p cd : Addr) : Prop where
  f : ∃ o, h.get? f = some o ∧ o.cls = .type "builtin_function_or_method" ∧ o.data = .fields #[.builtin "re.Pattern.search", .ref p]
  p : ∃ o fs, h.get? p = some o ∧ o.cls = .type "re.Pattern" ∧ o.data = .fields fs ∧ reRawNat (fs.getD 2 .none) = 0 ∧ fs.getD 5 .none = .ref cd ∧ reRawNat (fs.getD 6 .none) = 0
  c : ∃ o items n, h.get? cd = some o ∧ o.data = .seq items n ∧ (items.map reRawOf).map (·.toNat) = reCode

section
variable {prog : Program} {w : World} {A : Around} {E : Value → Shared → Prop} {s : Shared}

theorem target_search {f p cd : Addr} {x : Str} {t : Tok} {Q : ReTarget → Shared → Prop} (R : ReAt s.heap f p cd) (q : Q { pattern := .ref p, string := .str x t, code := reCode, text := x.cps, kind := 0, groups := 0, pos := 0, lim := x.cps.size } s) (hx : x.cps.size < 2 ^ 63) :
    wpAny (model prog w) A (reTarget "re.Pattern.search" "search" ⟨[.ref p, .str x t], []⟩) Q E s := by
  obtain ⟨op, fs, hp, hpc, hpd, h2, h5, h6⟩ := R.p
  obtain ⟨oc, items, n, hc, hcd, hcode⟩ := R.c
  show wpAny _ A (reNamed "re.Pattern.search" "search" ["string", "pos", "endpos"] 1 [.str x t] [] >>= _) Q E s
  rw [named_search]
  refine wpAny_bind (wpAny_pure ?_)
  refine wpAny_bind (wpAny_pure ?_)
  refine wpAny_bind (wpAny_pure ?_)
  refine wpAny_bind (wpAny_fieldsOf hp hpd ?_)
  refine wpAny_bind (wpAny_pure (a := (x.cps, 0)) ?_)
  rw [h6, h5, h2]
  show wpAny _ A (reNoCollectionInside (.str x t) 0 >>= _) _ _ s
  refine wpAny_bind (wpAny_pure ?_)
  refine wpAny_bind (m := reRawItems (.ref cd)) (wpAny_bind (wpAny_seqItems hc hcd (wpAny_pure ?_)))
  refine wpAny_pure ?_
  have e1 : min (0 : Int).toNat x.cps.size = 0 := by simp
  have e2 : min (2 ^ 63 - 1 : Int).toNat x.cps.size = x.cps.size := by
    have : (2 ^ 63 - 1 : Int).toNat = 9223372036854775807 := by decide
    rw [this]; omega
  show Q { pattern := .ref p, string := .str x t, code := (items.map reRawOf).map (·.toNat), text := x.cps, kind := 0, groups := 0, pos := min (0 : Int).toNat x.cps.size, lim := min (2 ^ 63 - 1 : Int).toNat x.cps.size } s
  rw [hcode, e1, e2]
  exact q

theorem drive_search (x : Str) (hx : 0 < x.cps.size) : ∃ m' : Sre.M, reDrive (2 ^ 64) (Sre.forSearch reCode x.cps 0 0 x.cps.size false) = pure m' ∧ m'.outcome = some (if unsafe? x then .matched else .failed) := by
  obtain ⟨m', e, ho⟩ := search_run x hx
  refine ⟨m', ?_, ho⟩
  show reDrive (18446744073709551615 + 1) _ = _
  show (if ((Sre.forSearch reCode x.cps 0 0 x.cps.size false).runFor 4).outcome.isSome then pure ((Sre.forSearch reCode x.cps 0 0 x.cps.size false).runFor 4) else _) = _
  rw [e, ho]; rfl

theorem end_search (x : Str) (hx : 0 < x.cps.size) {Q : Option Sre.M → Shared → Prop} (q : (unsafe? x = true → ∀ m, Q (some m) s) ∧ (unsafe? x = false → Q none s)) :
    wpAny (model prog w) A (reRunToEnd (Sre.forSearch reCode x.cps 0 0 x.cps.size false)) Q E s := by
  obtain ⟨m', e, ho⟩ := drive_search x hx
  unfold reRunToEnd
  rw [e]
  refine wpAny_bind (wpAny_pure ?_)
  refine wpAny_bind (wpAny_forIn_list _ (fun _ _ s' => s' = s) (fun _ s' => s' = s ∧ True) (fun i rest b s' hs => ?_) (fun b s' hs => ⟨hs, trivial⟩) _ _ rfl |> fun h => wpAny_mono h (fun _ s' hs => ?_) fun _ _ e => e)
  · obtain ⟨rfl, _⟩ := hs
    rw [ho]
    cases hu : unsafe? x with
    | true => exact wpAny_pure (q.1 hu m')
    | false => exact wpAny_pure (q.2 hu)
  · subst hs
    by_cases hh : m'.seen.has i = true
    · simp only [hh, if_true]
      exact wpAny_bind (wpAny_rule (wpAny_pure rfl))
    · simp only [hh, if_false, Bool.false_eq_true]
      exact wpAny_pure rfl

theorem match_search {p : Addr} {x : Str} {t : Tok} {m : Sre.M} {Q : Value → Shared → Prop} (q : ∀ a h', s.heap.get? a = none → (∀ b o, s.heap.get? b = some o → h'.get? b = some o) → Q (.ref a) { s with heap := h' }) :
    wpAny (model prog w) A (reNewMatch (.ref p) (.str x t) 0 0 x.cps.size m) Q E s := by
  show wpAny _ A (newTuple [rawInt m.start, rawInt m.handed] >>= fun tup => newFields "re.Match" [.str x t, .ref p, rawInt 0, rawInt x.cps.size, rawInt m.lastindex, tup]) Q E s
  refine wpAny_bind (m := newTuple _) (wpAny_newObj_type ?_ (by size_fits))
  refine wpAny_newObj_type (q _ _ (Heap.get?_none_of_le (by simp)) fun b o e => Heap.get?_push_of_some _ (Heap.get?_push_of_some _ e)) (by size_fits)
end

/-- _find_unsafe -/
theorem CW.search {B : Wd} {n : Nat} {H : List O} {Q : V → List O → Prop} {f p cd : Addr} {x : Str} (R : ReAt B.hb f p cd) (hf : f ≠ B.P) (hp : p ≠ B.P) (hcd : cd ≠ B.P) (hx : 0 < x.cps.size) (hsz : x.cps.size < 2 ^ 63)
    (q : (unsafe? x = true → ∀ a, Q (.ext a) H) ∧ (unsafe? x = false → Q .none H)) : CW B n (.ref f) [.str x] H Q := fun A E s ρ vs' QQ hA S hv kk => by
  obtain _ | ⟨⟨t, rfl⟩, _ | _⟩ := hv
  have R' : ReAt s.heap f p cd := by
    obtain ⟨⟨o, e, r⟩, ⟨o2, fs, e2, r2⟩, ⟨o3, it, m, e3, r3⟩⟩ := R
    exact ⟨⟨o, S.keep _ _ e (np hf), r⟩, ⟨o2, fs, S.keep _ _ e2 (np hp), r2⟩, ⟨o3, it, m, S.keep _ _ e3 (np hcd), r3⟩⟩
  obtain ⟨o, ho, hoc, hod⟩ := R'.f
  obtain ⟨op, fs, hpp, hpc, hpd, _⟩ := R'.p
  refine wpAny_call (codeAny_of_tree ?_)
  show wpAny _ _ (callAny (.ref f) ⟨[.str x t], []⟩) _ _ s
  simp only [callAny]
  refine wpAny_bind (wpAny_load ho ?_)
  rw [hod, hoc]
  show wpAny _ _ (checkBoundCall "re.Pattern.search" ⟨[.ref p, .str x t], []⟩ >>= fun _ => again (.builtin "re.Pattern.search" ⟨[.ref p, .str x t], []⟩)) _ _ s
  refine wpAny_bind (check_search hpp hpc hpd (wpAny_pure ⟨(by kernel_rfl), ?_⟩))
  refine codeAny_builtin entry_search ?_
  show wpAny _ _ (reTarget "re.Pattern.search" "search" ⟨[.ref p, .str x t], []⟩ >>= fun t => reAnswer t (Sre.forSearch t.code t.text t.groups t.pos t.lim false)) _ _ s
  refine wpAny_bind (target_search R' ?_ hsz)
  unfold reAnswer
  refine wpAny_bind (end_search x hx ⟨fun hu m => ?_, fun hu => ?_⟩)
  · refine wpAny_bind (match_search fun a h' hn hk => wpAny_pure ?_)
    exact kk (.ext a) _ H ρ _ (q.1 hu a) rfl (S.keeps (tk := s.toks) hk S.toks) (Step.keeps (tk := s.toks) hk)
  · exact wpAny_pure (kk .none _ H ρ s (q.2 hu) rfl S Step.refl)

end Mine

end
section
open PySem PySem.W PySem.Calls PyProof.Rows
set_option maxRecDepth 100000
namespace Mine

def fnNth : List Stmt → Nat → List Stmt × Scope
  | [], _ => ([], { kind := .function, names := [], isGenerator := false, isCoroutine := false })
  | .FunctionDef _ _ body _ _ _ scope _ _ _ :: r, 0 => (body, scope)
  | .FunctionDef .. :: r, k + 1 => fnNth r k
  | _ :: r, k => fnNth r k

abbrev Wd.tick (B : Wd) : Wd := { B with t0 := 1 }

section
variable {B : Wd}
theorem SB.tick {ρ H s} (S : SB B ρ H s) (h : 1 ≤ s.toks) : SB B.tick ρ H s := ⟨S.keep, S.fresh, S.len, S.nodup, fun k o a e e' => by have := S.objs k o a e e'; cases o <;> exact this, S.tab, S.gens, S.os, h⟩
theorem SB.untick {ρ H s} (S : SB B.tick ρ H s) (h : B.t0 ≤ 1) : SB B ρ H s := ⟨S.keep, S.fresh, S.len, S.nodup, fun k o a e e' => by have := S.objs k o a e e'; cases o <;> exact this, S.tab, S.gens, S.os, Nat.le_trans h S.toks⟩
theorem Fn.tick {f names body S} (F : Fn B f names body S) : Fn B.tick f names body S := ⟨F.ex, F.p⟩

variable {n : Nat} {H : List O} {Q : V → List O → Prop}
/-- a def with a parameter: its frame's first store takes a token -/
theorem CW.def1 {f : Addr} {name : Str} {names : List Str} {body : List Stmt} {S : Scope} {v0 : V} {vs : List V} (W : B.Ok) (T : B.There) (ht0 : B.t0 ≤ 1) (F : Fn B f (name :: names) body S) (hlen : vs.length = names.length)
    (h : ∀ q cd L, FW B.tick n (fenv S q f cd L) (execs body (fenv S q f cd L)) (locOf (name :: names) (v0 :: vs)) H fun fl _ H' => ∃ v, fl = .ret v ∧ H' = H ∧ v.Closed H.length ∧ Q v H)
    (hk : ((name :: names).all fun x => S.names.lookup x == some .local) = true := by decide) (hnc : (S.names.all fun x => x.2 != .cell) = true := by decide) (hn : (name :: names).Nodup := by decide) (hkind : S.kind = .function := by rfl) (hco : S.isCoroutine = false := by rfl) (hgen : S.isGenerator = false := by rfl) :
    CW B (n + 1) (.ref f) (v0 :: vs) H Q := fun A E s ρ vs' QQ hA SS hv kk => by
  obtain ⟨⟨o, fd, ho, hd, hS, hbody, hclo, hglob, hbu, ⟨c, oc, cvs, t, hc1, hc2, hc3, hc4, hc5⟩, hbind⟩, hfP⟩ := F
  subst hS
  have hcell : ∀ x ∈ fd.scope.names, x.2 ≠ .cell := fun x hx => by simpa using List.all_eq_true.mp hnc x hx
  have hcf : ∀ (k : Nat) (l : List (Str × NameKind)) (acc), (∀ x ∈ l, x.2 ≠ NameKind.cell) → cellsFrom k l acc = acc := fun k l => by
    induction l generalizing k with
    | nil => intro acc _; rfl
    | cons y r ih =>
      intro acc hy
      unfold cellsFrom
      rw [if_neg (by have := hy y (.head _); simpa using this)]
      exact ih _ _ fun x hx => hy x (.tail _ hx)
  refine wpAny_call ?_
  refine codeAny_call_function hA.room (SS.keep _ _ ho (np hfP)) hd hco hgen hbody ⟨c, oc, cvs, t, hc1, SS.keep _ _ hc3 (np hc2), hc4, hc5⟩ ?_
  have hl' : vs'.length = (name :: names).length := by rw [← hv.length]; simp [hlen]
  rw [hbind vs' hl', hclo]
  have hloc : ∀ x ∈ (name :: names).zip vs', fd.scope.names.lookup x.1 = some .local := fun x hx => by
    have := List.all_eq_true.mp hk x.1 (List.of_mem_zip hx).1
    simpa using this
  refine wpAny_pure (wpAny_newFunctionEnv hcell hloc (fun h' hns hsb => ?_) hkind)
  have old : ∀ b o, s.heap.get? b = some o → h'.get? b = some o := fun b o e => hsb.extBut b o (Nat.ne_of_lt (Heap.lt_size e)) (Heap.get?_push_of_some _ e)
  have he' : newEnv fd.scope s.heap.objs.size fd.globals [] (fd.qualname ++ ".<locals>.") (some f) fd.code none fd.builtins = fenv fd.scope (fd.qualname ++ ".<locals>.") f fd.code s.heap.objs.size := by
    rw [hglob, hbu]; unfold fenv; rw [hcf _ _ _ hcell]; rfl
  rw [he']
  refine ⟨W.nolimit.at fun o e => old _ _ (SS.keep _ _ e (np W.ps)), codeAny_func ?_⟩
  have fresh : ∀ a, s.heap.objs.size ≤ a → s.heap.get? a = none := fun a ha => Heap.get?_none_of_le ha
  have notin : ∀ a, s.heap.get? a = none → a ∉ ρ ∧ a ≠ B.P ∧ B.hb.get? a = none := fun a ha => by
    have hP : a ≠ B.P := fun e => by obtain ⟨ob, e'⟩ := SS.tab.there; rw [← e, ha] at e'; cases e'
    refine ⟨fun h => (by obtain ⟨ob, e⟩ := SS.mem h; rw [ha] at e; cases e), hP, ?_⟩
    cases q : B.hb.get? a with
    | none => rfl
    | some o => rw [SS.keep a o q (np hP)] at ha; cases ha
  have hz : 1 ≤ s.toks + ((name :: names).zip vs').length := by
    have : ((name :: names).zip vs').length = names.length + 1 := by simp [List.length_zip, hl']
    omega
  have S' : SB B.tick ρ H { s with heap := h', toks := s.toks + ((name :: names).zip vs').length } := (SS.keeps old (Nat.le_trans SS.toks (Nat.le_add_right _ _))).tick hz
  have L' : LocR B.tick (fenv fd.scope (fd.qualname ++ ".<locals>.") f fd.code s.heap.objs.size) (locOf (name :: names) (v0 :: vs)) ρ h' := by
    obtain ⟨n1, n2, n3⟩ := notin _ (fresh _ (Nat.le_refl _))
    have hnoc : ∀ y c, (fenv fd.scope (fd.qualname ++ ".<locals>.") f fd.code s.heap.objs.size).cells.lookup y = some c → False := fun y c e => by
      unfold fenv at e; dsimp only at e; rw [hcf _ _ _ hcell] at e; cases e
    refine ⟨hkind, rfl, rfl, n1, n2, n3, fun y c e => (hnoc y c e).elim, fun y z c e _ => (hnoc y c e).elim, _, hns, fun y v e => .inl ?_⟩
    obtain ⟨v', hm, r⟩ := zip_lookup hv e
    have := List.all_eq_true.mp hk y (List.of_mem_zip hm).1
    refine ⟨by show fd.scope.names.lookup y = _; simpa using this, v', ?_, r⟩
    have hnd : (((name :: names).zip vs').map (·.1)).Nodup := by
      have : ((name :: names).zip vs').map (·.1) = name :: names := by
        rw [List.map_fst_zip]; rw [hl']; exact Nat.le_refl _
      rw [this]; exact hn
    have key : ∀ (l : List (Str × Value)), (l.map (·.1)).Nodup → (y, v') ∈ l → l.lookup y = some v' := fun l => by
      induction l with
      | nil => intro _ h; cases h
      | cons z r ih =>
        intro hn hm
        simp only [List.map_cons, List.nodup_cons] at hn
        rw [List.lookup_cons]
        rcases List.mem_cons.mp hm with q | q
        · subst q; simp
        · have : (y == z.1) = false := by
            simp only [beq_eq_false_iff_ne, ne_eq]
            rintro rfl
            exact hn.1 (List.mem_map.mpr ⟨_, q, rfl⟩)
          rw [this]; exact ih hn.2 q
    refine key _ ?_ (List.mem_reverse.mpr hm)
    rw [List.map_reverse]
    exact (List.reverse_perm _).nodup_iff.mpr hnd
  refine h _ _ _ _ _ _ ρ _ (hA.deeper) S' L' fun fl fl' loc' H' ρ' s'' q r S'' L'' st'' => ?_
  obtain ⟨v, rfl, rfl, hvc, q⟩ := q
  obtain ⟨v', rfl, hvv⟩ := r
  obtain ⟨⟨m, e, hm⟩, k⟩ := id st''
  have hml : m = [] := by
    have h1 := S''.len
    have h2 := SS.len
    rw [e, List.length_append] at h1
    exact List.length_eq_zero_iff.mp (by omega)
  subst hml
  rw [List.append_nil] at e
  subst e
  refine kk v _ H' _ s'' q hvv (S''.untick ht0) ⟨⟨[], by simp, by simp⟩, fun a o e na nP => ?_⟩
  refine k a o (old a o e) na nP ?_
  rintro (rfl | ⟨y, hc⟩)
  · have := fresh _ (Nat.le_refl s.heap.objs.size); rw [show (fenv fd.scope (fd.qualname ++ ".<locals>.") f fd.code s.heap.objs.size).locals = s.heap.objs.size from rfl, this] at e; cases e
  · unfold fenv at hc; dsimp only at hc; rw [hcf _ _ _ hcell] at hc; cases hc
end
end Mine

end
section
open PySem PySem.W PySem.Calls PyProof.Rows
set_option maxRecDepth 100000
namespace Mine

section
variable {B : Wd} {n : Nat} {env : Env} {loc : Loc} {H : List O} {Q : V → List O → Prop}

/-- the world, once more: another base, under which nothing grows -/
abbrev Wd.still (B : Wd) (h : Heap) (o : OsState) (g : Array GenState → Drawn → Prop) : Wd := { B with hb := h, os := o, gr := false, t0 := 0, gk := g }

theorem Wd.Tab.but {X : Addr → Prop} {h h' : Heap} (x : B.Tab h) (hk : ∀ b o, ¬ X b → h.get? b = some o → h'.get? b = some o) (n1 : ¬ X B.c) (n2 : ¬ X B.P) : B.Tab h' := by
  obtain ⟨ps, x, y⟩ := x
  refine ⟨ps, ?_, ?_⟩
  · obtain ⟨o, vs, file, tf, flags, tg, inF, text, tt, op, a, r1, r2, r3, r4, r5, r6, b, r⟩ := x
    exact ⟨o, vs, file, tf, flags, tg, inF, text, tt, op, hk _ _ n1 a, r1, r2, r3, r4, r5, r6, hk _ _ n2 b, r⟩
  · obtain ⟨⟨o, vs, a, r⟩, t⟩ := y
    exact ⟨⟨o, vs, hk _ _ n1 a, r⟩, hk _ _ n2 t⟩

theorem SB.remake {ρ : List Addr} {s s' : Shared} (S : SB B ρ H s) (T : B.There) (hgr : B.gr = true) (hk : ∀ b o, b ≠ B.P → s.heap.get? b = some o → s'.heap.get? b = some o) (tab : B.Tab s'.heap) (hg : B.gk s'.gens s'.drawn) (ho : s'.os = s.os) (ht : B.t0 ≤ s'.toks) :
    SB B ρ H s' ∧ Step B ρ ρ s s' := by
  have hP := S.notP T.P
  refine ⟨⟨fun a o e n => hk a o (n hgr) (S.keep a o e n), S.fresh, S.len, S.nodup, fun k o a e e' => ?_, tab, hg, ho.trans S.os, ht⟩, ⟨[], by simp, by simp⟩, fun a o e _ nP => hk a o (nP hgr) e⟩
  have := (S.objs k o a e e').at (more := []) (h' := s'.heap) fun ob e => hk _ _ (fun q => hP (q ▸ List.mem_of_getElem? e')) e
  simpa using this

/-- sep.join(f(x) for x in y) -/
theorem EW.joinGen {sep qn x y : Str} {fq : Addr} {F : Str → Str} {xs : List Str} {vs : List V} {k m : Nat} {S : Scope} {kc : Nat} {p0 apos pos qpos xpos cpos tpos ypos gpos : Pos} (W : B.Ok) (T : B.There) (hgr : B.gr = true) (hgk : B.gk = fun g _ => AllBare g) (hc : env.code = .ref B.c)
    (hq : B.mg qn = some (.ref fq)) (hF : Callee B (.ref fq))
    (hcall : ∀ (h : Heap) (os : OsState) (g : Array GenState → Drawn → Prop), (∀ a o, B.hb.get? a = some o → a ≠ B.P → h.get? a = some o) → (∃ o, h.get? B.P = some o) → ∀ z ∈ xs, CW (B.still h os g) m (.ref fq) [.str z] [] fun v H' => v = .str (F z) ∧ H' = [])
    (hmn : m + 1 ≤ n) (hy : loc y = some (.ref k)) (hk : H[k]? = some (.list vs)) (hx : strsOf vs = some xs) (hlen : xs.length ≤ sizeLine) (hok : JoinOk sep (xs.map F) = true) (q : Q (.str (Txt.join sep (xs.map F))) H)
    (hS : S.kind = .function := by rfl) (hco : S.isCoroutine = false := by rfl) (h0 : S.names.lookup (".0" : Str) = some .local := by rfl) (hxl : S.names.lookup x = some .local := by rfl) (hqk : S.names.lookup qn = some .globalImplicit := by rfl)
    (hnf : (S.names.all fun z => z.2 != .free && z.2 != .cell) = true := by decide)
    (hd1 : (qn == ("__debug__" : Str)) = false := by decide) (hd2 : (x == ("__debug__" : Str)) = false := by decide) (hd3 : (y == ("__debug__" : Str)) = false := by decide) (hd4 : (y == ("__classdict__" : Str)) = false := by decide) (hd5 : (x == ("__classdict__" : Str)) = false := by decide) (hline : (apos.endLine == pos.line) = true := by rfl) :
    EW B n env loc (.Call (.Attribute (.Constant (.str sep) kc p0) (Str.ofString "join") apos) [.GeneratorExp (.Call (.Name qn qpos) [.Name x xpos] [] cpos) [⟨.Name x tpos, .Name y ypos, [], 0⟩] S gpos] [] pos) H Q := fun A E s ρ QQ hA SS L kk => by
  have hnofree : ∀ z ∈ S.names, z.2 ≠ .free := fun z hz => by have := List.all_eq_true.mp hnf z hz; simp at this; exact this.1
  have hnocell : ∀ z ∈ S.names, z.2 ≠ .cell := fun z hz => by have := List.all_eq_true.mp hnf z hz; simp at this; exact this.2
  refine wpAny_Call_method rfl rfl hline PySem.F.plainAttrs_str PySem.F.slot_str_join PySem.F.type_str_join (Constant_str ?_)
  refine ⟨typeIs_str _ _ _, fun a e => (by cases e), ?_⟩
  refine callWith_builtin rfl ?_
  refine evalArgs_plain (x := eval (.GeneratorExp (.Call (.Name qn qpos) [.Name x xpos] [] cpos) [⟨.Name x tpos, .Name y ypos, [], 0⟩] S gpos) env) (rest := []) (spliced_cons ?_)
  -- the state behind the first constant
  have S0 : SB B ρ H { s with toks := s.toks + 1 } := SS.tok SS.ltok
  have st0 : Step B ρ ρ s { s with toks := s.toks + 1 } := Step.tok
  have L0 := L.step st0
  generalize hs0 : ({ s with toks := s.toks + 1 } : Shared) = s0 at *
  generalize s.toks = tsep at *
  refine wpAny_with_toks S0.toks (wpAny_GeneratorExp_walksQD (cl := []) hA.h hco (closureFor_none hnofree) hnocell h0 hxl hS hA.room ?_ (fun _ => rfl))
  have hname : EW B n env loc (.Name y ypos) H fun v H1 => v = .ref k ∧ H1 = H := EW.name hy ⟨rfl, rfl⟩ hd3 hd4
  refine hname A _ s0 ρ _ hA S0 L0 fun v v' H1 ρ1 s1 q1 vv S1 st1 => ?_
  obtain ⟨rfl, rfl⟩ := q1
  obtain ⟨l, el, rfl⟩ := vv
  obtain ⟨vs', ml, gl, rl, hl⟩ := S1.list hk el
  obtain ⟨lt, hlt, hlx⟩ := rl.strsOf hx
  refine wpAny_pyIter_list hl ⟨?_, ?_⟩
  · exact (W.nolimit.at fun o e => S1.keep _ _ e (np W.ps)).push _
  obtain ⟨more0, hcode, htab⟩ := S1.tab.keeps (h' := s1.heap.push { cls := .type "list_iterator", data := .fields #[.ref l, .int 0 0] }) fun b o e => Heap.get?_push_of_some _ e
  have hIn : s1.heap.get? s1.heap.objs.size = none := no_new
  have fact : ∀ a, s1.heap.get? a = none → a ∉ ρ1 ∧ a ≠ B.P ∧ a ≠ B.c ∧ B.hb.get? a = none := fun a ha => by
    have hP : a ≠ B.P := fun e => by obtain ⟨ob, e'⟩ := S1.tab.there; rw [← e, ha] at e'; cases e'
    have hb : B.hb.get? a = none := by
      cases q : B.hb.get? a with
      | none => rfl
      | some o => rw [S1.keep a o q (np hP)] at ha; cases ha
    exact ⟨fun h => (by obtain ⟨ob, e⟩ := S1.mem h; rw [ha] at e; cases e), hP, fun e => (by obtain ⟨o, e'⟩ := T.c; rw [e, e'] at hb; cases hb), hb⟩
  -- what follows the code's making
  have rest : ∀ (code : Value) (h3 : Heap) (tk : Nat), (∀ b o, b ≠ B.P → (s1.heap.push { cls := .type "list_iterator", data := .fields #[.ref l, .int 0 0] }).get? b = some o → h3.get? b = some o) → B.Tab h3 → (s1.heap.push { cls := .type "list_iterator", data := .fields #[.ref l, .int 0 0] }).objs.size ≤ h3.objs.size →
      wpAny B.M A (builtinsFor env.globals env.builtins) (fun bi s₄ =>
        ∃ I fp wr n₀ P St₀ pz F, (Value.ref s1.heap.objs.size) = .ref I ∧ (∀ A' : Around, A'.handled = none → Walks B.prog B.w A' I fp wr n₀ P St₀) ∧ St₀ 0 s₄.heap ∧ (∀ b ∈ fp, b < s₄.heap.objs.size) ∧ s₄.heap.NoLimit ∧ cStatics ∉ wr ∧
          (∀ href : Heap, (∀ b o, s₄.heap.get? b = some o → href.get? b = some o) →
            QuietGenD B.prog B.w (genEnv S [] s₄.heap.objs.size code bi env) x [] (.Call (.Name qn qpos) [.Name x xpos] [] cpos) (List.range s₄.heap.objs.size) wr P pz F href (A.depth + 1) (A.units + 8)) ∧
          (∀ a h₅ tk gs, gs.bare = true → s₄.heap.objs.size < a → h₅.objs.size = a + 1 → (∀ b o, s₄.heap.get? b = some o → h₅.get? b = some o) →
            WalksS B.prog B.w A.in4 a (a :: s₄.heap.objs.size :: List.range s₄.heap.objs.size) (s₄.heap.objs.size :: wr) (GenOnlyQ s₄.gens.size) (passing pz n₀ 0).length
              (fun j y => ∃ i, (passing pz n₀ 0)[j]? = some i ∧ F i y) (GenAt B.prog B.w A.in4 a s₄.gens.size s₄.heap.objs.size (List.range s₄.heap.objs.size) wr pz n₀ F) →
            GenAt B.prog B.w A.in4 a s₄.gens.size s₄.heap.objs.size (List.range s₄.heap.objs.size) wr pz n₀ F 0 { s₄ with gens := s₄.gens.push gs, toks := tk, heap := h₅ } →
            B.t0 ≤ ({ s₄ with gens := s₄.gens.push gs, toks := tk, heap := h₅ } : Shared).toks → wpAny B.M A (spliced (backTo pos (starEach [] env))) (fun vs s' => wpAny B.M A (PySem.call (.builtin "str.join") ([Value.str sep tsep] ++ (Value.ref a :: vs))) QQ E s') E { s₄ with gens := s₄.gens.push gs, toks := tk, heap := h₅ })) (fun e s' => B.t0 ≤ s'.toks → E e s') { s1 with heap := h3, toks := tk } := fun code h3 tk hk3 tab3 hsz3 => by
    have keep3 : ∀ a o, B.hb.get? a = some o → a ≠ B.P → h3.get? a = some o := fun a o e n => hk3 a o n (Heap.get?_push_of_some _ (S1.keep a o e (np n)))
    obtain ⟨bm, ob, b1, b2, b3, b4, b5, b6, b7⟩ := W.bmain
    rw [L.glob, L.bu]
    refine wpAny_builtinsFor (m := B.mg) (bm := bm) (o := ob) (W.g.at' fun o e => keep3 _ o e W.pg) b1 b2 (keep3 _ _ b3 b7) b4 b5 b6 ?_
    have hlP : l ≠ B.P := fun e => S1.notP T.P (e ▸ List.mem_of_getElem? el)
    have hlI : l ≠ s1.heap.objs.size := Nat.ne_of_lt (Heap.lt_size gl)
    have hIP : s1.heap.objs.size ≠ B.P := (fact _ hIn).2.1
    have gl3 : h3.IsList l vs'.toArray := ⟨_, hk3 _ _ hlP (Heap.get?_push_of_some _ gl), rfl, ml, rfl⟩
    have gI3 : h3.IsListIter s1.heap.objs.size l 0 := ⟨_, hk3 _ _ hIP (Heap.get?_push_size _ rfl), rfl, rfl⟩
    have hszI : s1.heap.objs.size < h3.objs.size := by have h := hsz3; rw [Heap.size_push] at h; exact h
    have hlen' : vs'.length = xs.length := by rw [← hlt, ← hlx]; simp [strValues]
    refine ⟨s1.heap.objs.size, [s1.heap.objs.size, l], [s1.heap.objs.size], vs'.toArray.size, _, _, fun _ => true, fun i v => ∃ z t, xs[i]? = some z ∧ v = .str (F z) t, rfl, fun A' hA' => Walks.list hA' _ _ hlI vs'.toArray, ⟨gI3, gl3⟩, ?_, ?_, ?_, ?_, ?_⟩
    · intro b hb
      rcases List.mem_cons.mp hb with rfl | hb
      · exact hszI
      · rw [List.mem_singleton.mp hb]; exact Nat.lt_trans (Heap.lt_size gl) hszI
    · exact (W.nolimit.at fun o e => keep3 _ o e W.ps)
    · intro hm
      rw [List.mem_singleton] at hm
      obtain ⟨mc, ⟨o, _, _, e, _⟩, _⟩ := W.nolimit
      have := S1.keep _ _ e (np W.ps)
      rw [hm, hIn] at this; cases this
    · intro href hhref
      refine ⟨fun A' E' i v s₂ m₂ _ _ _ _ _ _ _ => wpAny_tests_nil ⟨rfl, s₂.heap, s₂.toks, rfl, fun _ _ e => e⟩, fun A' E' i v s₂ m₂ hA'h hA'd hA'u hP _ hns hm2 hkeep => ?_⟩
      have k2 : ∀ b o, b ≠ s1.heap.objs.size → h3.get? b = some o → s₂.heap.get? b = some o := fun b o nb e => hkeep b (List.mem_range.mpr (Heap.lt_size e)) (by simpa using nb) o (hhref b o e)
      -- the item
      obtain ⟨z, hz⟩ : ∃ z, xs[i]? = some z := by
        have : i < vs'.length := by
          have := (Array.getElem?_eq_some_iff.mp hP).1; simpa using this
        exact ⟨xs[i]'(by omega), List.getElem?_eq_getElem (by omega)⟩
      obtain ⟨tz, rfl⟩ : ∃ t, v = .str z t := by
        rw [← hlt] at hP
        rw [← hlx] at hz
        simp only [strValues, List.getElem?_toArray, List.getElem?_map] at hP hz
        cases e : lt[i]? with
        | none => rw [e] at hz; cases hz
        | some pz => rw [e] at hP hz; cases hP; cases hz; exact ⟨_, rfl⟩
      let B' := B.still (hideAll h3 [s1.heap.objs.size]) s₂.os fun g d => g = s₂.gens ∧ d = s₂.drawn
      have hbk : ∀ a o, B.hb.get? a = some o → a ≠ B.P → (hideAll h3 [s1.heap.objs.size]).get? a = some o := fun a o e n => hideAll_get _ (keep3 a o e n) fun h => by
        rw [List.mem_singleton] at h; rw [h, (fact _ hIn).2.2.2] at e; cases e
      have hPh : ∃ o, (hideAll h3 [s1.heap.objs.size]).get? B.P = some o := by
        obtain ⟨o, e⟩ := tab3.there
        exact ⟨o, hideAll_get _ e fun h => hIP (List.mem_singleton.mp h).symm⟩
      have SB2 : SB B' [] [] s₂ := by
        refine ⟨fun a o e _ => ?_, fun a h => (by cases h), rfl, List.nodup_nil, fun k o a e => (by cases e), ?_, ⟨rfl, rfl⟩, rfl, Nat.zero_le _⟩
        · exact k2 a o (fun q => by rw [show (hideAll h3 [s1.heap.objs.size]).get? a = none from hideAll_none _ (by rw [q]; exact .head _)] at e; cases e) (of_hideAll _ e)
        · exact Wd.Tab.but (B := B) (X := (· = s1.heap.objs.size)) tab3 (fun b o nb e => k2 b o nb e) (fun e => (fact _ hIn).2.2.1 e.symm) (fun e => hIP e.symm)
      have W' : B'.Ok := by
        refine ⟨W.g.at' fun o e => hbk _ o e W.pg, W.b.at' fun o e => hbk _ o e W.pb, W.nolimit.at fun o e => hbk _ o e W.ps, W.builtins, ⟨bm, ob, b1, b2, hbk _ _ b3 b7, b4, b5, b6, b7⟩, W.pg, W.pb, W.ps, W.pc⟩
      have hF' : Callee B' (.ref fq) := by
        cases hF with
        | fn e d nP => exact .fn (hbk _ _ e nP) d nP
        | bound e d c nP => exact .bound (hbk _ _ e nP) d c nP
      have Lc : LocR B' (genEnv S [] h3.objs.size code builtinsNs env) (upd (fun _ => none) x (.str z)) [] s₂.heap := by
        refine ⟨hS, L.glob, rfl, by simp, ?_, ?_, fun _ _ e => (by cases e), fun _ _ _ e => (by cases e), m₂, hns, fun w u e => .inl ?_⟩
        · intro e
          obtain ⟨o, e'⟩ := tab3.there
          exact absurd (Heap.lt_size e') (by rw [show B.P = h3.objs.size from e.symm]; exact Nat.lt_irrefl _)
        · exact Heap.get?_none_of_le (by rw [hideAll_size]; exact Nat.le_refl _)
        · unfold upd at e
          split at e
          · rename_i hw; subst hw; cases e; exact ⟨hxl, _, hm2, tz, rfl⟩
          · cases e
      have hAm : AOk m A' := ⟨hA'h, by have := hA.d; omega, by have := hA.u; omega⟩
      have hew : EW B' m (genEnv S [] h3.objs.size code builtinsNs env) (upd (fun _ => none) x (.str z)) (.Call (.Name qn qpos) [.Name x xpos] [] cpos) [] fun v H' => v = .str (F z) ∧ H' = [] := by
        refine EW.call W' (.top hq) hF' (EWs.cons (EW.name (by unfold upd; rw [if_pos rfl]) (EWs.nil (hcall _ _ _ hbk hPh z (List.mem_of_getElem? hz))) hd2 hd5)) hqk hd1
      refine hew A' E' s₂ [] _ hAm SB2 Lc fun v v' H' ρ' s3 qv vv S3 st3 => ?_
      obtain ⟨rfl, rfl⟩ := qv
      obtain ⟨t3, rfl⟩ := vv
      have hρ' : ρ' = [] := List.length_eq_zero_iff.mp S3.len
      subst hρ'
      refine ⟨⟨z, t3, hz, rfl⟩, s3.heap, s3.toks, ?_, fun b o e => st3.keep b o e (by simp) (fun h => by cases h)⟩
      obtain ⟨g1, g2⟩ := S3.gens
      have g3 := S3.os
      have g3 : s3.os = s₂.os := g3
      cases s3
      dsimp only at g1 g2 g3
      rw [g1, g2, g3]
    · intro a h5 tk5 gs hgs ha5 hsz5 hk5 WS hGA ht5
      have ha5' : h3.objs.size < a := ha5
      have hk5' : ∀ b o, h3.get? b = some o → h5.get? b = some o := hk5
      have hlenP : (passing (fun _ => true) vs'.toArray.size 0) = List.range vs'.toArray.size := by
        unfold passing; rw [List.drop_zero]; exact List.filter_eq_self.mpr fun _ _ => rfl
      refine spliced_nil ?_
      refine wpAny_with_toks (n := B.t0) ht5 (SC.joinGen WS.in4_2 (fun i s st => st.1.typeIs) hGA ?_ List.mem_cons_self (fun i v hv => ?_) (fun s' ls hm hit => ?_) ?_)
      · intro b hb
        show b < h5.objs.size
        rw [hsz5]
        rcases List.mem_cons.mp hb with rfl | hb
        · exact Nat.lt_succ_self _
        · rcases List.mem_cons.mp hb with rfl | hb
          · exact Nat.lt_succ_of_lt ha5
          · exact Nat.lt_succ_of_lt (Nat.lt_trans (List.mem_range.mp hb) ha5)
      · obtain ⟨i', _, z, t, _, rfl⟩ := hv; exact ⟨_, _, rfl⟩
      · have hls : ls.map (·.1) = xs.map F := by
          have hln : ls.length = xs.length := by
            have := hit.1
            rw [hlenP] at this
            simp [strValues] at this
            omega
          apply List.ext_getElem?
          intro j
          by_cases hj : j < xs.length
          · have hj' : j < ls.length := by omega
            have h1 := hit.2 j (.str ls[j].1 ls[j].2) (by simp [strValues, List.getElem?_eq_getElem hj'])
            rw [hlenP] at h1
            obtain ⟨i, hi, z, t, hz, e⟩ := h1
            have hij : i = j := by
              have hjl : j < vs'.toArray.size := by simp; omega
              rw [List.getElem?_range hjl] at hi
              exact (Option.some.inj hi).symm
            subst hij
            injection e with e1 _
            simp [List.getElem?_eq_getElem hj', hz, e1]
          · rw [List.getElem?_eq_none (by simp; omega), List.getElem?_eq_none (by simp; omega)]
        rw [hls]
        refine ⟨hok, fun t' tk' htk' => ?_⟩
        have nw : ∀ b, b ∈ [h3.objs.size, s1.heap.objs.size] → s1.heap.get? b = none := fun b hb => by
          rcases List.mem_cons.mp hb with rfl | hb
          · exact Heap.get?_none_of_le (Nat.le_of_lt hszI)
          · rw [List.mem_singleton.mp hb]; exact hIn
        have moved : ∀ b o, b ≠ B.P → s1.heap.get? b = some o → s'.heap.get? b = some o := fun b o nP e =>
          hm.heap b o (fun hb => by rw [nw b hb] at e; cases e) (hk5' b o (hk3 b o nP (Heap.get?_push_of_some _ e)))
        have hcn : B.c ∉ [h3.objs.size, s1.heap.objs.size] := fun hb => by
          obtain ⟨o, e⟩ := T.c
          have := S1.keep _ _ e (np W.pc)
          rw [nw _ hb] at this; cases this
        have hPn : B.P ∉ [h3.objs.size, s1.heap.objs.size] := fun hb => by
          obtain ⟨o, e⟩ := S1.tab.there
          rw [nw _ hb] at e; cases e
        obtain ⟨Sf, stf⟩ := S1.remake (s' := { s' with toks := tk' }) T hgr moved
          (Wd.Tab.but (B := B) (X := (· ∈ [h3.objs.size, s1.heap.objs.size])) (tab3.keeps hk5') (fun b o nb e => hm.heap b o nb e) hcn hPn)
          (by
            have g1 := S1.gens
            rw [hgk] at g1 ⊢
            exact ((AllBare.push g1 hgs).movedS (s := ({ s1 with heap := h5, toks := tk5, gens := s1.gens.push gs } : Shared)) hm : AllBare s'.gens)) hm.os htk'
        exact kk _ _ _ ρ1 _ q ⟨t', rfl⟩ Sf ((st0.trans S0 st1).trans S1 stf)
      · rw [hlenP]; simp; omega
  cases hca : codeAmong gpos (B.ps0 ++ more0).toList with
  | none =>
    refine wpAny_genexprCodeX hc hcode htab hca fun c' h' tk hx' hge hlt' hcode' _ htab' _ => ?_
    rw [Array.append_assoc] at hcode' htab'
    exact rest _ h' tk (fun b o nb e => hx' b o nb e) ⟨_, hcode', htab'⟩ (Nat.le_trans hge (Nat.le_of_lt hlt'))
  | some c' =>
    refine wpAny_genexprCode_hit hc hcode hca ?_
    exact rest _ _ s1.toks (fun b o _ e => e) ⟨_, hcode, htab⟩ (Nat.le_refl _)
end
end Mine

end
section
open PySem PySem.W PySem.Calls PyProof.Rows
set_option maxRecDepth 100000
namespace Mine

section
variable {prog : Program} {w : World} {A : Around} {E : Value → Shared → Prop} {s : Shared}

theorem nextOf_tuple_item {it l : Addr} {i : Nat} {items} {x : Value} {Q : Value → Shared → Prop} (hit : s.heap.IsTupleIter it l i) (hl : s.heap.IsTuple l items) (hx : items[i]? = some x)
    (hQ : ∀ h', h'.IsTupleIter it l (i + 1) → Heap.SameBut it s.heap h' → Q x { s with heap := h' }) : wpAny (model prog w) A (Builtin.SmallTypes.nextOf (.ref it)) Q E s := by
  obtain ⟨o, ho, hc, hd⟩ := id hit
  obtain ⟨ol, hol, _, nl, hdl⟩ := hl
  unfold Builtin.SmallTypes.nextOf
  refine wpAny_bind (wpAny_callSpecial?_slot (name := Str.ofString "__next__") hit.typeIs PySem.F.slot_tuple_iterator_next
    (wpAny_call_entry PySem.F.slot_tuple_iterator_next hit.typeIs PySem.F.entry_tuple_iterator_next ?_ (PySem.F.args_tuple_iterator_next_1 _)))
  show wpAny _ _ (field (.ref it) 0 >>= _) _ _ s
  refine wpAny_bind (wpAny_field ho hd (x := .ref l) rfl ?_)
  show wpAny _ _ (if (Value.ref l == Value.none) = true then _ else _) _ _ s
  rw [if_neg (show ¬ ((Value.ref l == Value.none) = true) from Bool.false_ne_true)]
  show wpAny _ _ (field (.ref it) 1 >>= _) _ _ s
  refine wpAny_bind (wpAny_field ho hd (x := .int i 0) rfl ?_)
  show wpAny _ _ (seqItems? (.ref l) >>= _) _ _ s
  refine wpAny_bind (wpAny_seqItems hol hdl ?_)
  simp only [Int.toNat_natCast, hx]
  refine wpAny_bind (wpAny_setField ho hd (by simp) (wpAny_pure ⟨x, rfl, wpAny_pure (hQ _ ?_ (Heap.SameBut.update ..))⟩))
  exact ⟨_, Heap.get?_update_self _ ho (Obj.isFreed_of_fields (Obj.data_mapFields hd _)), (Obj.cls_mapFields ..).trans hc, by
    rw [Obj.data_mapFields hd]; simp [rawInt]⟩

theorem nextOf_tuple_end {it l : Addr} {i : Nat} {items} {Q : Value → Shared → Prop} (hh : A.handled = none) (hit : s.heap.IsTupleIter it l i) (hl : s.heap.IsTuple l items) (hx : items[i]? = none)
    (hE : ∀ h' e, Heap.ExtBut it s.heap h' → (∃ o, h'.get? e = some o ∧ o.cls = .type "StopIteration") → E (.ref e) { s with heap := h' }) :
    wpAny (model prog w) A (Builtin.SmallTypes.nextOf (.ref it)) Q E s := by
  obtain ⟨o, ho, hc, hd⟩ := id hit
  obtain ⟨ol, hol, _, nl, hdl⟩ := hl
  unfold Builtin.SmallTypes.nextOf
  refine wpAny_bind (wpAny_callSpecial?_slot (name := Str.ofString "__next__") hit.typeIs PySem.F.slot_tuple_iterator_next
    (wpAny_call_entry PySem.F.slot_tuple_iterator_next hit.typeIs PySem.F.entry_tuple_iterator_next ?_ (PySem.F.args_tuple_iterator_next_1 _)))
  show wpAny _ _ (field (.ref it) 0 >>= _) _ _ s
  refine wpAny_bind (wpAny_field ho hd (x := .ref l) rfl ?_)
  show wpAny _ _ (if (Value.ref l == Value.none) = true then _ else _) _ _ s
  rw [if_neg (show ¬ ((Value.ref l == Value.none) = true) from Bool.false_ne_true)]
  show wpAny _ _ (field (.ref it) 1 >>= _) _ _ s
  refine wpAny_bind (wpAny_field ho hd (x := .int i 0) rfl ?_)
  show wpAny _ _ (seqItems? (.ref l) >>= _) _ _ s
  refine wpAny_bind (wpAny_seqItems hol hdl ?_)
  simp only [Int.toNat_natCast, hx]
  refine wpAny_bind (wpAny_rule (wpAny_bind (wpAny_setField ho hd (by simp) ?_)))
  show wpAny _ _ (newExc (.type "StopIteration") [] >>= _) _ _ _
  refine wpAny_bind ?_
  simp only [newExc, newTuple]
  refine wpAny_bind (wpAny_newObj_type ?_ (by size_fits))
  refine wpAny_bind (m := firstArgMember _ _) (wpAny_of_eq (a := Value.none) (by first | rfl | (simp only [firstArgMember]; rfl)) ?_)
  refine wpAny_newObj_type ?_ (by size_fits)
  simp only [raiseNew]
  refine wpAny_bind (wpAny_handled ?_)
  first | rw [show A.in1.handled = none from hh] | rw [hh]
  refine wpAny_bind (wpAny_pure (wpAny_throw ?_))
  exact hE _ _ (((Heap.SameBut.update ..).extBut.push _).push _) ⟨_, Heap.get?_push_size _ rfl, rfl⟩
end

theorem draws_tuple {prog : Program} {w : World} {A : Around} (hh : A.handled = none) (it l : Addr) (hne : l ≠ it) (items : Array Value) :
    Draws prog w A it [it, l] items.size (fun i v => items[i]? = some v) (fun i h => h.IsTupleIter it l i ∧ h.IsTuple l items) where
  live := fun i h st => let ⟨o, ho, _⟩ := st.1; ⟨o, ho⟩
  frame := fun _ _ _ st hk => ⟨st.1.at fun o e => hk it (by simp) o e, st.2.at fun o e => hk l (by simp) o e⟩
  item := fun i s Q E hi st hQ => nextOf_tuple_item st.1 st.2 (x := items[i]) (by simp [hi]) fun h' hit' hs' => hQ _ h' s.toks (by simp [hi]) ⟨hit', st.2.extBut hs'.extBut hne⟩ hs'
  done := fun s Q E st hE => nextOf_tuple_end hh st.1 st.2 (by simp) fun h' e he hx => hE h' e he hx

set_option maxHeartbeats 1000000 in
theorem meets_enumT (l : Addr) (items : Array Value) (n : Nat) :
    Meets (Builtin.«enumerate.__new__» ⟨[.type "enumerate", .ref l], []⟩) (fun _ R s => s.heap.get? l = some { cls := .type "tuple", dict := none, data := .seq items n, slots := #[] } ∧
      R (.ok (.ret (.ref (s.heap.push { cls := .type "tuple_iterator", data := .fields #[.ref l, .int 0 0] }).objs.size)))
        { s with heap := (s.heap.push { cls := .type "tuple_iterator", data := .fields #[.ref l, .int 0 0] }).push { cls := .type "enumerate", data := .fields #[.none, .bool false, .ref s.heap.objs.size, rawInt 0, .none, .none] } }) :=
  .of_wp fun prog w A R s h => by
    obtain ⟨hp, g, d, tk, os⟩ := s; obtain ⟨hl, h⟩ := h
    have hsub := sub_enumerate
    have hL : Heap.IsTuple (Shared.heap ⟨hp, g, d, tk, os⟩) l items := ⟨_, hl, rfl, n, rfl⟩
    wp_walk using wpAny_loadPart' hl
    refine wpAny_stack_any fun st => wpAny_pure ?_
    split
    · rename_i c _ _ _ _ _
      cases (c == Value.type "enumerate")
      · wp_walk using wpAny_loadPart' hl, wpAny_pyIter_tuple hL
        exact ⟨_, rfl, h⟩
      · wp_walk using wpAny_loadPart' hl, wpAny_pyIter_tuple hL
        exact ⟨_, rfl, h⟩
    · wp_walk using wpAny_loadPart' hl, wpAny_pyIter_tuple hL
      exact ⟨_, rfl, h⟩

theorem call_enumT {prog : Program} {w : World} {A : Around} {E : Value → Shared → Prop} {s : Shared} {l : Addr} {items : Array Value} {n : Nat} {Q : Value → Shared → Prop} (hl : s.heap.get? l = some { cls := .type "tuple", dict := none, data := .seq items n, slots := #[] })
    (h : ∀ h', IsEnum h' (s.heap.objs.size + 1) s.heap.objs.size 0 .none → h'.IsTupleIter s.heap.objs.size l 0 → (∀ b o, s.heap.get? b = some o → h'.get? b = some o) → Q (.ref (s.heap.objs.size + 1)) { s with heap := h' }) :
    wpAny (model prog w) A (call (.type "enumerate") [.ref l]) Q E s := by
  refine callType_new PySem.F.called_enumerate (by decide) (PySem.F.typeCall_enumerate_1 _) (PySem.F.newCall_enumerate_1 _) (fun obj => PySem.F.args_object_init_2 obj _) PySem.F.entry_enumerate_new (meets_enumT l items n) ⟨hl, ?_⟩
  have hz : (s.heap.push { cls := .type "tuple_iterator", data := .fields #[.ref l, .int 0 0] }).objs.size = s.heap.objs.size + 1 := Heap.size_push ..
  show _ ∧ _
  rw [hz]
  have he : IsEnum ((s.heap.push { cls := .type "tuple_iterator", data := .fields #[.ref l, .int 0 0] }).push { cls := .type "enumerate", data := .fields #[.none, .bool false, .ref s.heap.objs.size, rawInt 0, .none, .none] }) (s.heap.objs.size + 1) s.heap.objs.size 0 .none := by
    have := Heap.get?_push_size (s.heap.push { cls := .type "tuple_iterator", data := .fields #[.ref l, .int 0 0] }) (o := { cls := .type "enumerate", data := .fields #[.none, .bool false, .ref s.heap.objs.size, rawInt 0, .none, .none] }) rfl
    rw [hz] at this; exact this
  refine ⟨⟨_, he, rfl⟩, h _ he ⟨_, Heap.get?_push_of_some _ (Heap.get?_push_size _ rfl), rfl, rfl⟩ fun b o e => Heap.get?_push_of_some _ (Heap.get?_push_of_some _ e)⟩
end Mine

end
section
open PySem PySem.W PySem.Calls PyProof.Rows
set_option maxRecDepth 100000
namespace Mine
section
variable {B : Wd} {n : Nat} {env : Env} {loc : Loc} {H : List O} {Q : Fl → Loc → List O → Prop}

/-- for i, v in enumerate(T), over a tuple of the world that was -/
theorem ST.forEnum {xi xv tbl en : Str} {pi pv pt ep tp cpos pos : Pos} {c : Nat} {body orelse : List Stmt} {t : Addr} {vs : List V} {vs' : List Value} {mm : Nat} (W : B.Ok) (T : B.There)
    (ht : B.hb.get? t = some { cls := .type "tuple", dict := none, data := .seq vs'.toArray mm, slots := #[] }) (hP : t ≠ B.P) (hv : VRs [] vs vs') (hg : B.mg tbl = some (.ref t)) (he : Glob B en (.type "enumerate"))
    (I : Nat → Loc → List O → Prop) (h0 : I 0 loc H)
    (turn : ∀ i v loc H, vs[i]? = some v → I i loc H → FW B n env (execs body env) (upd (upd loc xi (.int i)) xv v) H fun f l H' => match f with | .next => I (i + 1) l H' | .cont => I (i + 1) l H' | .brk => Q .next l H' | .ret v => Q (.ret v) l H')
    (fin : ∀ loc H, I vs.length loc H → FW B n env (execs orelse env) loc H Q)
    (hxi : env.kindOf xi = some .local := by rfl) (hxv : env.kindOf xv = some .local := by rfl) (hk1 : env.kindOf en = some .globalImplicit := by rfl) (hk2 : env.kindOf tbl = some .globalImplicit := by rfl)
    (hd1 : (en == ("__debug__" : Str)) = false := by decide) (hd2 : (tbl == ("__debug__" : Str)) = false := by decide) :
    FW B n env (exec (.For (.Tuple [.Name xi pi, .Name xv pv] c pt) (.Call (.Name en ep) [.Name tbl tp] [] cpos) body orelse pos) env) loc H Q := fun A E s ρ QQ hA S L kk => by
  have htu : B.hb.IsTuple t vs'.toArray := ⟨_, ht, rfl, mm, rfl⟩
  have hat : ∀ h : Heap, (∀ a o, B.hb.get? a = some o → B.NP a → h.get? a = some o) → h.IsTuple t vs'.toArray := fun h hk => htu.at fun o e => hk t o e (np hP)
  refine wpAny_For ?_ (fun _ => rfl)
  show wpAny _ A (do callWith cpos (← eval (.Name en ep) env) [] (backTo cpos (starEach [.Name tbl tp] env)) (backToKw cpos (keywordEach [] env))) _ _ s
  refine wpAny_bind (wpAny_glob W S L hk1 he ?_ hd1)
  refine PyProof.Rows.callWith_type rfl (evalArgs_plain (x := eval (.Name tbl tp) env) (rest := []) (spliced_cons (wpAny_global W S L hk2 hg (spliced_nil ?_) hd2)))
  refine call_enumT (S.keep _ _ ht (np hP)) fun h1 hE1 hI1 hk1 => ?_
  have S1 : SB B ρ H { s with heap := h1 } := S.keeps (tk := s.toks) hk1 S.toks
  have st1 : Step B ρ ρ s { s with heap := h1 } := Step.keeps (tk := s.toks) hk1
  have L1 := L.step st1
  refine wpAny_pyIter_enum (s := { s with heap := h1 }) hE1 ?_
  generalize hen : s.heap.objs.size + 1 = e at *
  generalize hin : s.heap.objs.size = it at *
  have hne : e ≠ it := by omega
  have nw : ∀ a, a = e ∨ a = it → s.heap.get? a = none := fun a h => Heap.get?_none_of_le (by omega)
  have nit : ∀ a, a = e ∨ a = it → a ∉ ρ ∧ a ≠ B.P ∧ B.hb.get? a = none ∧ ¬ Own env a := fun a h => by
    have ha := nw a h
    have hP : a ≠ B.P := fun e => by obtain ⟨ob, e'⟩ := S.tab.there; rw [← e, ha] at e'; cases e'
    refine ⟨fun h => (by obtain ⟨ob, e⟩ := S.mem h; rw [ha] at e; cases e), hP, ?_, fun h => (by obtain ⟨o, e⟩ := L.owned a h; rw [ha] at e; cases e)⟩
    cases q : B.hb.get? a with
    | none => rfl
    | some o => rw [S.keep a o q (np hP)] at ha; cases ha
  have hte : t ≠ e := fun q => by rw [q, (nit e (.inl rfl)).2.2.1] at ht; cases ht
  have hti : t ≠ it := fun q => by rw [q, (nit it (.inr rfl)).2.2.1] at ht; cases ht
  have D : Draws B.prog B.w A.in1 it [it, t] vs'.toArray.size _ _ := draws_tuple (A := A.in1) (show A.in1.handled = none from hA.h) it t hti vs'.toArray
  have hlen : vs.length = vs'.toArray.size := by rw [List.size_toArray]; exact hv.length
  refine codeAny_forLoop_any (fun k s' => ∃ i loc' H' ρ' old, k = vs.length + 1 - i ∧ i ≤ vs.length ∧ I i loc' H' ∧ IsEnum s'.heap e it (i : Nat) old ∧ s'.heap.IsTupleIter it t i ∧ SB B ρ' H' s' ∧ LocR B env loc' ρ' s'.heap ∧ e ∉ ρ' ∧ it ∉ ρ' ∧
      StepX B (fun a => Own env a ∨ (a = e ∨ a = it)) ρ ρ' s s') ?_ (vs.length + 1) ⟨0, loc, H, ρ, .none, rfl, Nat.zero_le _, h0, hE1, hI1, S1, L1, (nit e (.inl rfl)).1, (nit it (.inr rfl)).1, st1.toX⟩
  rintro k s' ⟨i, loc', H', ρ', old, rfl, hi, hI, hE, hIt, S', L', n1, n2, st'⟩
  obtain ⟨oi, hoi, _⟩ := id hIt
  have nX : ∀ a, a = e ∨ a = it → a ∉ ρ' := fun a h => h.elim (fun q => q ▸ n1) fun q => q ▸ n2
  have sbk : ∀ {h' : Heap} {tk : Nat}, (∀ b o, ¬ (b = e ∨ b = it) → s'.heap.get? b = some o → h'.get? b = some o) → B.t0 ≤ tk → SB B ρ' H' { s' with heap := h', toks := tk } := fun {h' tk} hk ht =>
    S'.other T (X := fun a => a = e ∨ a = it) (fun a h => ⟨nX a h, (nit a h).2.2.1⟩) hk ht
  have lk : ∀ {h' : Heap}, (∀ b o, ¬ (b = e ∨ b = it) → s'.heap.get? b = some o → h'.get? b = some o) → LocR B env loc' ρ' h' := fun {h'} hk => L'.at fun a o ho e => hk a o (fun q => (nit a q).2.2.2 ho) e
  have stk : ∀ {h' : Heap} {tk : Nat}, (∀ b o, ¬ (b = e ∨ b = it) → s'.heap.get? b = some o → h'.get? b = some o) → StepX B (fun a => Own env a ∨ (a = e ∨ a = it)) ρ' ρ' s' { s' with heap := h', toks := tk } := fun {h' tk} hk =>
    ⟨⟨[], by simp, by simp⟩, fun a o e _ _ nx => hk a o (fun q => nx (.inr q)) e⟩
  have own : ∀ {h' : Heap}, (∀ a, Own env a → ∃ o, h'.get? a = some o) → (∃ o, h'.get? e = some o) → (∃ o, h'.get? it = some o) → ∀ a, (Own env a ∨ (a = e ∨ a = it)) → ∃ o, h'.get? a = some o := fun h1 h2 h3 a h => by
    rcases h with h | rfl | rfl
    · exact h1 a h
    · exact h2
    · exact h3
  have out : ∀ {ρ4 : List Addr} {s4 : Shared}, StepX B (fun a => Own env a ∨ (a = e ∨ a = it)) ρ ρ4 s s4 → StepX B (Own env) ρ ρ4 s s4 := fun st => ⟨st.ext, fun a o ea na nP nO => st.keep a o ea na nP fun h => h.elim nO fun q => by rw [nw a q] at ea; cases ea⟩
  by_cases hlt : i < vs.length
  · obtain ⟨v, hvi⟩ : ∃ v, vs[i]? = some v := ⟨vs[i], List.getElem?_eq_getElem hlt⟩
    obtain ⟨v', hv'i, hvv⟩ := hv.get hvi
    refine wpAny_with_toks S'.toks (wpAny_pyNext_enum_itemD D hE ⟨hIt, hat _ S'.keep⟩ (by omega) hne (by simp [hne, Ne.symm hte]) fun x h2 tk hx hO hst2 hT2 hz2 hk2 htk => ?_)
    have hx' : x = v' := by
      have hx : vs'.toArray[i]? = some x := hx
      simp only [List.getElem?_toArray] at hx
      rw [hv'i] at hx; exact (Option.some.inj hx).symm
    subst hx'
    have hk2' : ∀ b o, ¬ (b = e ∨ b = it) → s'.heap.get? b = some o → h2.get? b = some o := fun b o nb eb => hk2 b o (fun q => nb (.inl q)) (fun q => nb (.inr q)) eb
    have helt : e < s'.heap.objs.size := Heap.lt_size hE
    have hilt : it < s'.heap.objs.size := Heap.lt_size hoi
    refine wpAny_letOwnedTupleGo_enum (s := { s' with heap := h2, toks := tk + 1 }) hO fun h3 hE3 hs3 => ?_
    replace hs3 : Heap.SameBut e h2 h3 := hs3
    have hT3 : h3.IsTuple s'.heap.objs.size #[.int i tk, x] := ⟨_, (hs3.2 _ (Nat.ne_of_gt helt)).trans hT2, rfl, _, rfl⟩
    have hk3 : ∀ b o, ¬ (b = e ∨ b = it) → s'.heap.get? b = some o → h3.get? b = some o := fun b o nb eb => hs3.extBut b o (fun q => nb (.inl q)) (hk2' b o nb eb)
    have hI3 : h3.IsTupleIter it t (i + 1) := hst2.1.extBut hs3.extBut (Ne.symm hne)
    refine wpAny_assign_Tuple (s := { s' with heap := h3, toks := tk + 1 }) hA.h hT3 rfl rfl fun h4 hx4 => ?_
    have S3 := sbk (tk := tk + 1) hk3 htk
    have hb4 := Step.beside (B := B) (ρ := ρ') (s := { s' with heap := h3, toks := tk + 1 }) hx4
    refine wpAny_two (v := .int i) T (S3.beside hx4) ((lk hk3).step hb4) ⟨tk, rfl⟩ (by simpa using hvv.mono (more := ρ')) hxi hxv fun s5 S5 L5 st5 => ?_
    refine turn i v loc' H' hvi hI A _ s5 ρ' _ hA S5 L5 fun f f' l6 H6 ρ6 s6 q6 r6 S6 L6 st6 => ?_
    have nL : ∀ a, a = e ∨ a = it → a ≠ env.locals := fun a h q => (nit a h).2.2.2 (.inl q)
    have up : ∀ a o, a = e ∨ a = it → h3.get? a = some o → s6.heap.get? a = some o := fun a o h ea =>
      st6.keep a o (st5.keep a o (hb4.keep a o ea (nX a h) (np (nit a h).2.1)) (nX a h) (np (nit a h).2.1) (nL a h)) (nX a h) (np (nit a h).2.1) (nit a h).2.2.2
    have hE6 : IsEnum s6.heap e it ((i + 1 : Nat) : Int) x := by
      have : ((i + 1 : Nat) : Int) = (i : Int) + 1 := by push_cast; rfl
      rw [this]; exact up e _ (.inl rfl) hE3
    have hI6 : s6.heap.IsTupleIter it t (i + 1) := by
      obtain ⟨o, ho, r⟩ := hI3; exact ⟨o, up it o (.inr rfl) ho, r⟩
    have ex3e : ∃ o, h3.get? e = some o := ⟨_, hE3⟩
    have ex3i : ∃ o, h3.get? it = some o := let ⟨o, ho, _⟩ := hI3; ⟨o, ho⟩
    have ex4 : ∀ a, a = e ∨ a = it → ∃ o, h4.get? a = some o := fun a h => by
      rcases h with rfl | rfl
      · obtain ⟨o, ho⟩ := ex3e; exact ⟨o, hb4.keep _ o ho (nX _ (.inl rfl)) (np (nit _ (.inl rfl)).2.1)⟩
      · obtain ⟨o, ho⟩ := ex3i; exact ⟨o, hb4.keep _ o ho (nX _ (.inr rfl)) (np (nit _ (.inr rfl)).2.1)⟩
    have ex5 : ∀ a, a = e ∨ a = it → ∃ o, s5.heap.get? a = some o := fun a h => by
      obtain ⟨o, ho⟩ := ex4 a h; exact ⟨o, st5.keep a o ho (nX a h) (np (nit a h).2.1) (nL a h)⟩
    have sa : StepX B (fun a => Own env a ∨ (a = e ∨ a = it)) ρ ρ' s { s' with heap := h3, toks := tk + 1 } := st'.trans S' (own L'.owned ⟨_, hE⟩ ⟨_, hoi⟩) (stk hk3)
    have sb : StepX B (fun a => Own env a ∨ (a = e ∨ a = it)) ρ ρ' s { s' with heap := h4, toks := tk + 1 } := sa.trans S3 (own (lk hk3).owned ex3e ex3i) hb4.toX
    have sc : StepX B (fun a => Own env a ∨ (a = e ∨ a = it)) ρ ρ' s s5 := sb.trans (S3.beside hx4) (own ((lk hk3).step hb4).owned (ex4 e (.inl rfl)) (ex4 it (.inr rfl))) (st5.wide fun a q => Or.inl (Or.inl q))
    have sd : StepX B (fun a => Own env a ∨ (a = e ∨ a = it)) ρ ρ6 s s6 := sc.trans S5 (own L5.owned (ex5 e (.inl rfl)) (ex5 it (.inr rfl))) (st6.wide fun a q => Or.inl q)
    obtain ⟨m6, hm6, hm6'⟩ := st6.ext
    have n6 : ∀ a, a = e ∨ a = it → a ∉ ρ6 := fun a h q => by
      rw [hm6] at q
      rcases List.mem_append.mp q with q | q
      · exact nX a h q
      · obtain ⟨o, ho⟩ := ex5 a h; rw [hm6' a q] at ho; cases ho
    cases f with
    | next =>
      obtain rfl := r6
      exact ⟨vs.length + 1 - (i + 1), by omega, i + 1, l6, H6, ρ6, x, rfl, hlt, q6, hE6, hI6, S6, L6, n6 e (.inl rfl), n6 it (.inr rfl), sd⟩
    | cont =>
      obtain rfl := r6
      exact ⟨vs.length + 1 - (i + 1), by omega, i + 1, l6, H6, ρ6, x, rfl, hlt, q6, hE6, hI6, S6, L6, n6 e (.inl rfl), n6 it (.inr rfl), sd⟩
    | brk =>
      obtain rfl := r6
      exact kk .next _ l6 H6 ρ6 s6 q6 rfl S6 L6 (out sd)
    | ret u =>
      obtain ⟨u', rfl, hu⟩ := r6
      exact kk (.ret u) _ l6 H6 ρ6 s6 q6 ⟨u', rfl, hu⟩ S6 L6 (out sd)
  · have hil : i = vs.length := by omega
    subst hil
    refine wpAny_pyNext_enum_endD D hE ⟨by rw [← hlen]; exact hIt, hat _ S'.keep⟩ fun h2 hk2 => ?_
    have hk2' : ∀ b o, ¬ (b = e ∨ b = it) → s'.heap.get? b = some o → h2.get? b = some o := fun b o nb eb => hk2 b o (fun q => nb (.inr q)) eb
    have S2 : SB B ρ' H' { s' with heap := h2 } := sbk (tk := s'.toks) hk2' S'.toks
    refine fin loc' H' hI A _ _ ρ' _ hA S2 (lk hk2') fun f f' l4 H4 ρ4 s4 q4 r4 S4 L4 st4 => kk f f' l4 H4 ρ4 s4 q4 r4 S4 L4 ?_
    -- the iterator itself may have gone at the end
    have keep1 : ∀ a o, s.heap.get? a = some o → a ∉ ρ → B.NP a → ¬ Own env a → h2.get? a = some o := fun a o ea na nP nO =>
      hk2' a o (fun q => by rw [nw a q] at ea; cases ea) (st'.keep a o ea na nP fun h => h.elim nO fun q => by rw [nw a q] at ea; cases ea)
    obtain ⟨m1, rfl, hm1⟩ := st'.ext
    obtain ⟨⟨m2, rfl, hm2⟩, k3⟩ := st4
    refine ⟨⟨m1 ++ m2, by simp, fun a ha => ?_⟩, fun a o ea na nP nO => ?_⟩
    · rcases List.mem_append.mp ha with h | h
      · exact hm1 a h
      · cases q : s.heap.get? a with
        | none => rfl
        | some o =>
          exfalso
          have hn := hm2 a h
          by_cases hr : a ∈ ρ
          · obtain ⟨ob, e⟩ := S2.mem (List.mem_append_left _ hr); rw [hn] at e; cases e
          · by_cases hP : a = B.P
            · subst hP; obtain ⟨ob, e⟩ := S2.tab.there; rw [hn] at e; cases e
            · by_cases hO : Own env a
              · obtain ⟨ob, e⟩ := (lk hk2').owned a hO; have hn' : h2.get? a = none := hn; rw [hn'] at e; cases e
              · have : h2.get? a = none := hn
                rw [keep1 a o q hr (np hP) hO] at this; cases this
    · refine k3 a o (keep1 a o ea na nP nO) (fun h => ?_) nP nO
      rcases List.mem_append.mp h with h | h
      · exact na h
      · rw [hm1 a h] at ea; cases ea
end
end Mine

end
section
open PySem PySem.W PySem.Calls PyProof.Rows
set_option maxRecDepth 100000
namespace Mine
open PySem.Builtin PySem.Builtin.Str

/-- a text, by its signs -/
def S (l : List Nat) : Str := ⟨l.toArray⟩

theorem S_cps (l : List Nat) : (S l).cps.toList = l := rfl
theorem S_of (x : Str) : x = S x.cps.toList := by cases x; simp [S]
theorem S_len (l : List Nat) : (S l).length = l.length := by simp [S, Str.length]
theorem S_app (l m : List Nat) : S l ++ S m = S (l ++ m) := by
  apply PySem.Str.ext'; rw [PySem.Str.cps_append]; simp [S]
theorem S_inj {l m : List Nat} (h : S l = S m) : l = m := by
  have := congrArg (fun x : Str => x.cps.toList) h
  simpa [S] using this
theorem S_beq (l m : List Nat) : (S l == S m) = decide (l = m) := by
  by_cases h : l = m
  · subst h; simp
  · have : ¬ S l = S m := fun e => h (S_inj e)
    simp [h, this]

theorem slice_idx (a b len : Nat) : strSliceIndices (some (a : Int)) (some (b : Int)) 1 len = (List.range (min b len - min a len)).map (fun k => min a len + k) := by
  have h1 : ¬ ((a : Int) < 0) := by omega
  have h2 : ¬ ((b : Int) < 0) := by omega
  by_cases hab : min a len ≤ min b len
  · have := StrLaws.strSliceIndices_plain (a := min a len) (b := min b len) (len := len) hab (Nat.min_le_right _ _)
    rw [← this]
    have h3 : ¬ (((min a len : Nat) : Int) < 0) := by omega
    have h4 : ¬ (((min b len : Nat) : Int) < 0) := by omega
    simp only [strSliceIndices, h1, h2, h3, h4, if_false, show ((1 : Int) > 0) = True from by simp, if_true]
    congr 1 <;> omega
  · have e : min b len - min a len = 0 := by omega
    rw [e]
    simp only [strSliceIndices, sliceRange, h1, h2, if_false, show ((1 : Int) > 0) = True from by simp, if_true]
    have : ¬ (max (0 : Int) (min (a : Int) (len : Int)) < max 0 (min (b : Int) (len : Int))) := by omega
    simp [this]

theorem slice_S2 (l : List Nat) (a b : Nat) : Txt.slice (S l) (some (a : Int)) (some (b : Int)) = S ((l.take b).drop a) := by
  have key : (strSliceIndices (some (a : Int)) (some (b : Int)) 1 (S l).length).filterMap ((S l).cps[·]?) = (l.take b).drop a := by
    rw [slice_idx, S_len]
    have h := StrLaws.picks l (min b l.length - min a l.length) (min a l.length)
    by_cases hab : min a l.length ≤ min b l.length
    · have h := h (by omega)
      have e : ((List.range (min b l.length - min a l.length)).map (fun k => min a l.length + k)).filterMap ((S l).cps[·]?) = (l.drop (min a l.length)).take (min b l.length - min a l.length) := by
        rw [← h]; simp [S]
      rw [e]
      by_cases ha : a ≤ l.length
      · rw [Nat.min_eq_left ha]
        by_cases hb : b ≤ l.length
        · rw [Nat.min_eq_left hb, List.drop_take]
        · rw [Nat.min_eq_right (by omega), List.take_of_length_le (l := l) (i := b) (by omega), List.take_of_length_le (by simp)]
      · have e1 : min a l.length = l.length := by omega
        rw [e1, List.drop_of_length_le (Nat.le_refl _), List.drop_of_length_le (i := a) (by simp; omega)]
        simp
    · have e : min b l.length - min a l.length = 0 := by omega
      rw [e]
      rw [List.drop_of_length_le (by simp; omega)]
      simp
  unfold Txt.slice
  by_cases hl : ((1 : Int) == 1 && (strSliceIndices (some (a : Int)) (some (b : Int)) 1 (S l).length).length == (S l).length) = true
  · rw [if_pos hl]
    simp at hl
    have h2 : ((l.take b).drop a).length = l.length := by
      rw [slice_idx, S_len] at hl
      simp at hl
      rw [List.length_drop, List.length_take]; omega
    have h3 : (l.take b).drop a = l := by
      have h4 : l.length = 0 ∨ a = 0 := by
        rw [List.length_drop, List.length_take] at h2; omega
      rcases h4 with h4 | h4
      · have : l = [] := List.length_eq_zero_iff.mp h4
        subst this; simp
      · subst h4
        rw [List.drop_zero] at h2 ⊢
        rw [List.length_take] at h2
        exact List.take_of_length_le (by omega)
    rw [h3]
  · rw [if_neg hl, key]; rfl
theorem slice_Sto (l : List Nat) (b : Nat) : Txt.slice (S l) none (some (b : Int)) = S (l.take b) := by
  have := slice_S2 l 0 b
  rw [List.drop_zero] at this
  rw [← this]
  unfold Txt.slice
  have e : strSliceIndices none (some (b : Int)) 1 (S l).length = strSliceIndices (some ((0 : Nat) : Int)) (some (b : Int)) 1 (S l).length := by
    simp only [strSliceIndices, show ((1 : Int) > 0) = True from by simp, if_true]
    congr 1
  rw [e]
theorem slice_Sfrom (l : List Nat) (a : Nat) : Txt.slice (S l) (some (a : Int)) none = S (l.drop a) := by
  have := slice_S2 l a l.length
  rw [List.take_length] at this
  rw [← this]
  unfold Txt.slice
  have e : strSliceIndices (some (a : Int)) none 1 (S l).length = strSliceIndices (some (a : Int)) (some (l.length : Int)) 1 (S l).length := by
    simp only [strSliceIndices, S_len]
    have h2 : ¬ ((l.length : Int) < 0) := by omega
    simp only [h2, if_false, show ((1 : Int) > 0) = True from by simp, if_true]
    congr 1; omega
  rw [e]

/-- each c becomes z -/
def sub1 (c : Nat) (z : List Nat) (l : List Nat) : List Nat := l.flatMap fun k => if k = c then z else [k]

theorem sub1_free (c : Nat) (z : List Nat) : ∀ l : List Nat, c ∉ l → sub1 c z l = l
  | [], _ => rfl
  | k :: r, h => by
    have h1 : ¬ k = c := fun e => h (e ▸ .head _)
    have := sub1_free c z r fun m => h (.tail _ m)
    simp only [sub1, List.flatMap_cons, if_neg h1] at this ⊢
    rw [this]; rfl
theorem sub1_app (c : Nat) (z l m : List Nat) : sub1 c z (l ++ m) = sub1 c z l ++ sub1 c z m := by simp [sub1]
theorem sub1_join (c : Nat) (z : List Nat) : ∀ parts : List Str, (∀ p ∈ parts, c ∉ p.cps.toList) → sub1 c z (Str.join ⟨#[c]⟩ parts).cps.toList = (Str.join (S z) parts).cps.toList
  | [], _ => rfl
  | [p], h => sub1_free c z _ (h p (List.mem_singleton.mpr rfl))
  | p :: q :: r, h => by
    have ih := sub1_join c z (q :: r) fun a ha => h a (List.mem_cons_of_mem _ ha)
    show sub1 c z (p ++ ⟨#[c]⟩ ++ Str.join ⟨#[c]⟩ (q :: r)).cps.toList = (p ++ S z ++ Str.join (S z) (q :: r)).cps.toList
    simp only [PySem.Str.cps_append, Array.toList_append]
    rw [sub1_app, sub1_app, ih, sub1_free c z _ (h p (List.mem_cons_self ..))]
    show p.cps.toList ++ sub1 c z [c] ++ _ = _
    simp [sub1, S]
theorem replace_S (l z : List Nat) (c : Nat) : Txt.replace (S l) (S [c]) (S z) = S (sub1 c z l) := by
  have : (Txt.replace (S l) ⟨#[c]⟩ (S z)).cps.toList = sub1 c z l := by
    rw [StrLaws.replace_one, ← sub1_join c z _ (StrLaws.split_free (S l) c), StrLaws.join_split]; rfl
  rw [S_of (Txt.replace (S l) (S [c]) (S z))]
  exact congrArg S this

theorem in_S (l : List Nat) (c : Nat) : strIn (S [c]) (S l) = decide (c ∈ l) := StrLaws.found_one (S l) c

theorem sub1_len (c : Nat) (z l : List Nat) (hz : 1 ≤ z.length) : (sub1 c z l).length ≤ l.length * z.length := by
  induction l with
  | nil => simp [sub1]
  | cons k r ih =>
    simp only [sub1, List.flatMap_cons, List.length_append, List.length_cons] at ih ⊢
    have : (if k = c then z else [k]).length ≤ z.length := by split <;> simp <;> omega
    rw [Nat.add_mul]; omega

/-- texts, one after the other, with a sign between -/
def glue (sep : List Nat) : List (List Nat) → List Nat
  | [] => []
  | [x] => x
  | x :: y :: r => x ++ sep ++ glue sep (y :: r)
theorem join_S (sep : List Nat) : ∀ ls : List (List Nat), Str.join (S sep) (ls.map S) = S (glue sep ls)
  | [] => rfl
  | [x] => rfl
  | x :: y :: r => by
    have ih := join_S sep (y :: r)
    show S x ++ S sep ++ Str.join (S sep) ((y :: r).map S) = _
    rw [ih, S_app, S_app]; rfl

theorem txtjoin_S (sep : List Nat) (ls : List (List Nat)) : Txt.join (S sep) (ls.map S) = S (glue sep ls) := by
  show glued (S sep) (ls.map S) = _
  rw [StrLaws.glued_eq_join, join_S]

end Mine

end
section
open PySem PySem.W PySem.Calls PyProof.Rows
set_option maxRecDepth 100000
namespace Mine
abbrev pr := PySem.Challenge.pw_op0104_01
def joinB : List Stmt := (fnNth pr.main.body 0).1
def joinS : Scope := (fnNth pr.main.body 0).2
def quoteB : List Stmt := (fnNth pr.main.body 1).1
def quoteS : Scope := (fnNth pr.main.body 1).2
def ifmtB : List Stmt := (fnNth pr.main.body 2).1
def ifmtS : Scope := (fnNth pr.main.body 2).2
def fmodeB : List Stmt := (fnNth pr.main.body 3).1
def fmodeS : Scope := (fnNth pr.main.body 3).2
def esc3B : List Stmt := (fnNth pr.main.body 5).1
def esc3S : Scope := (fnNth pr.main.body 5).2
def esc0B : List Stmt := (fnNth pr.main.body 6).1
def esc0S : Scope := (fnNth pr.main.body 6).2
def esc2B : List Stmt := (fnNth pr.main.body 7).1
def esc2S : Scope := (fnNth pr.main.body 7).2
def esc4B : List Stmt := (fnNth pr.main.body 8).1
def esc4S : Scope := (fnNth pr.main.body 8).2
def esc1B : List Stmt := (fnNth pr.main.body 9).1
def esc1S : Scope := (fnNth pr.main.body 9).2

def Has (B : Wd) (name : Str) (names : List Str) (body : List Stmt) (S : Scope) : Prop := ∃ f, B.mg name = some (.ref f) ∧ Fn B f names body S

/-- what quote needs -/
structure TopQ (B : Wd) : Prop where
  ok : B.Ok
  there : B.There
  find : ∃ f p cd, B.mg "_find_unsafe" = some (.ref f) ∧ ReAt B.hb f p cd ∧ f ≠ B.P ∧ p ≠ B.P ∧ cd ≠ B.P
  quote : Has B "quote" ["s"] quoteB quoteS

theorem ReAt.callee {B : Wd} {f p cd : Addr} (R : ReAt B.hb f p cd) (h : f ≠ B.P) : Callee B (.ref f) := by
  obtain ⟨o, e, hc, hd⟩ := R.f
  exact .bound e hd hc h

def quoteL (l : List Nat) : List Nat := if l.length = 0 then [39, 39] else if l.any fun c => !safeCp c then [39] ++ sub1 39 [39, 34, 39, 34, 39] l ++ [39] else l

theorem quoteL_len (l : List Nat) : (quoteL l).length ≤ 5 * l.length + 2 := by
  unfold quoteL
  have := sub1_len 39 [39, 34, 39, 34, 39] l (by decide)
  split
  · simp
  · split
    · simp only [List.length_append, List.length_cons, List.length_nil] at this ⊢; omega
    · omega

set_option maxHeartbeats 1000000 in
theorem quote_walk {B : Wd} {n : Nat} {q : Str} {f : Addr} {cd : Value} {L : Addr} {H : List O} {l : List Nat} (T : TopQ B) (t0 : 1 ≤ B.t0) (hx : l.length ≤ 100000) :
    FW B n (fenv quoteS q f cd L) (execs quoteB (fenv quoteS q f cd L)) (locOf ["s"] [.str (S l)]) H fun fl _ H' => fl = .ret (.str (S (quoteL l))) ∧ H' = H := by
  obtain ⟨fa, p, cdd, hg, R, h1, h2, h3⟩ := T.find
  have hsl : sizeLine = 16777216 := rfl
  have hl := S_len l
  refine SW.cons (ST.ite (TW.not (TW.plain (EW.name rfl (TV.str (by rw [hl]; omega) ?_)))))
  rw [hl]
  by_cases h0 : l.length = 0
  · rw [h0]
    refine SW.cons (ST.ret (EW.cstr ⟨?_, rfl⟩))
    unfold quoteL; rw [if_pos h0]; rfl
  · rw [show ((l.length : Int) != 0) = true from bne_iff_ne.mpr (by omega)]
    refine SW.nil ?_
    refine SW.cons (ST.ite (TW.compare (EW.call T.ok (.top hg) (R.callee h1) (EWs.cons (EW.name rfl (EWs.nil (CW.search R h1 h2 h3 (show 0 < (S l).length by omega) (show (S l).length < 2 ^ 63 by omega) ⟨fun hu a => ?_, fun hu => ?_⟩)))))))
    · refine EW.cnone (PW2.isNoneExt (TV.bool ?_))
      refine SW.nil ?_
      refine SW.cons (ST.ret ?_)
      have hr := replace_S l [39, 34, 39, 34, 39] 39
      have hs5 := sub1_len 39 [39, 34, 39, 34, 39] l (by decide)
      simp only [List.length_cons, List.length_nil] at hs5
      refine EW.binop (EW.binop (EW.cstr (EW.replace t0 (EW.name rfl ⟨S l, rfl, by decide, ?_, ?_⟩))))
      · show (S l).length + ((S l).length + 1) * 5 ≤ _
        omega
      · rw [show Txt.replace (S l) (Str.ofString "'") (Str.ofString "'\"'\"'") = S (sub1 39 [39, 34, 39, 34, 39] l) from hr]
        rw [show (Str.ofString "'") = S [39] from rfl]
        refine PW2.adds (by rw [S_len, S_len, hsl]; simp only [List.length_cons, List.length_nil]; omega) (EW.cstr ?_)
        rw [S_app]
        refine PW2.adds (by rw [S_len, S_len, hsl]; simp only [List.length_append, List.length_cons, List.length_nil]; omega) ⟨?_, rfl⟩
        rw [S_app]
        have hu' : (l.any fun c => !safeCp c) = true := hu
        unfold quoteL; rw [if_neg h0, if_pos hu']
    · refine EW.cnone (PW2.isNone (TV.bool ?_))
      refine SW.cons (ST.ret (EW.name rfl ⟨?_, rfl⟩))
      have hu' : (l.any fun c => !safeCp c) = false := hu
      unfold quoteL; rw [if_neg h0, hu']; rfl

theorem TopQ.tick {B : Wd} (T : TopQ B) : TopQ B.tick := by
  obtain ⟨a, b, c, f, hf, F⟩ := T
  exact ⟨⟨a.g, a.b, a.nolimit, a.builtins, a.bmain, a.pg, a.pb, a.ps, a.pc⟩, ⟨b.c, b.P⟩, c, f, hf, F.tick⟩

theorem quote_call {B : Wd} {n : Nat} {H : List O} {l : List Nat} {f : Addr} (T : TopQ B) (ht : B.t0 ≤ 1) (hf : B.mg "quote" = some (.ref f)) (hx : l.length ≤ 100000) :
    CW B (n + 1) (.ref f) [.str (S l)] H fun v H' => v = .str (S (quoteL l)) ∧ H' = H := by
  obtain ⟨f', hf', F⟩ := T.quote
  rw [hf] at hf'; cases hf'
  refine CW.def1 T.ok T.there ht F rfl (fun q cd L => ?_) (by decide +kernel) (by decide +kernel)
  refine FW.mono (quote_walk T.tick (Nat.le_refl _) hx) fun fl _ H' h => ?_
  obtain ⟨rfl, rfl⟩ := h
  exact ⟨_, rfl, rfl, fun k e => (by cases e), rfl, rfl⟩

/-- the tables of filemode -/
def rows : List (List (Nat × Nat)) := [[(40960, 108), (49152, 115), (32768, 45), (24576, 98), (16384, 100), (8192, 99), (4096, 112)], [(256, 114)], [(128, 119)], [(2112, 115), (2048, 83), (64, 120)],
  [(32, 114)], [(16, 119)], [(1032, 115), (1024, 83), (8, 120)], [(4, 114)], [(2, 119)], [(513, 116), (512, 84), (1, 120)]]
def PairAt (B : Wd) (v : Value) (p : Nat × Nat) : Prop := ∃ a t u, v = .ref a ∧ B.hb.IsTuple a #[.int (p.1 : Int) t, .str (S [p.2]) u] ∧ a ≠ B.P
def RowAt (B : Wd) (v : Value) (r : List (Nat × Nat)) : Prop := ∃ a ws, v = .ref a ∧ B.hb.IsTuple a (List.toArray ws) ∧ a ≠ B.P ∧ ws.length = r.length ∧ ∀ (i : Nat) p, r[i]? = some p → ∃ w, ws[i]? = some w ∧ PairAt B w p
def TblAt (B : Wd) : Prop := ∃ t vs mm, B.mg "_filemode_table" = some (.ref t) ∧ B.hb.get? t = some { cls := .type "tuple", dict := none, data := .seq (List.toArray vs) mm, slots := #[] } ∧ t ≠ B.P ∧ vs.length = rows.length ∧ ∀ (i : Nat) r, rows[i]? = some r → ∃ v, vs[i]? = some v ∧ RowAt B v r

def tabB : List Stmt := (fnNth pr.main.body 10).1
def tabS : Scope := (fnNth pr.main.body 10).2
def signB : List Stmt := (fnNth pr.main.body 11).1
def signS : Scope := (fnNth pr.main.body 11).2
def bareB : List Stmt := (fnNth pr.main.body 12).1
def bareS : Scope := (fnNth pr.main.body 12).2
def spelB : List Stmt := (fnNth pr.main.body 13).1
def spelS : Scope := (fnNth pr.main.body 13).2
def wideB : List Stmt := (fnNth pr.main.body 14).1
def wideS : Scope := (fnNth pr.main.body 14).2
def knowB : List Stmt := (fnNth pr.main.body 15).1
def knowS : Scope := (fnNth pr.main.body 15).2
def starB : List Stmt := (fnNth pr.main.body 16).1
def starS : Scope := (fnNth pr.main.body 16).2
def fronB : List Stmt := (fnNth pr.main.body 17).1
def fronS : Scope := (fnNth pr.main.body 17).2
def righB : List Stmt := (fnNth pr.main.body 18).1
def righS : Scope := (fnNth pr.main.body 18).2
def turnB : List Stmt := (fnNth pr.main.body 19).1
def turnS : Scope := (fnNth pr.main.body 19).2
def putB : List Stmt := (fnNth pr.main.body 20).1
def putS : Scope := (fnNth pr.main.body 20).2
def loseB : List Stmt := (fnNth pr.main.body 21).1
def loseS : Scope := (fnNth pr.main.body 21).2
def comeB : List Stmt := (fnNth pr.main.body 22).1
def comeS : Scope := (fnNth pr.main.body 22).2
def goB : List Stmt := (fnNth pr.main.body 23).1
def goS : Scope := (fnNth pr.main.body 23).2
def chanB : List Stmt := (fnNth pr.main.body 24).1
def chanS : Scope := (fnNth pr.main.body 24).2
def deedB : List Stmt := (fnNth pr.main.body 25).1
def deedS : Scope := (fnNth pr.main.body 25).2
def wbyB : List Stmt := (fnNth pr.main.body 26).1
def wbyS : Scope := (fnNth pr.main.body 26).2
def lawB : List Stmt := (fnNth pr.main.body 27).1
def lawS : Scope := (fnNth pr.main.body 27).2

/-- the world of the law -/
structure Top (B : Wd) : Prop extends TopQ B where
  gr : B.gr = true
  gk : B.gk = fun g _ => AllBare g
  t0 : B.t0 = 1
  join : ∃ f, B.mg "join" = some (.ref f) ∧ Fn B f ["split_command"] joinB joinS ∧ ∀ o fd, B.hb.get? f = some o → o.data = .func fd → fd.code = .ref B.c
  ifmt : Has B "S_IFMT" ["mode"] ifmtB ifmtS
  fmode : Has B "filemode" ["mode"] fmodeB fmodeS
  esc0 : Has B "_escape_attrib" ["text"] esc0B esc0S
  esc1 : Has B "_escape_attrib_c14n" ["text"] esc1B esc1S
  esc2 : Has B "_escape_attrib_html" ["text"] esc2B esc2S
  esc3 : Has B "_escape_cdata" ["text"] esc3B esc3S
  esc4 : Has B "_escape_cdata_c14n" ["text"] esc4B esc4S
  tbl : TblAt B
  enu : Glob B "enumerate" (.type "enumerate")
  wby : Has B "_law_written_by" ["which", "line"] wbyB wbyS
  bi : ∀ x : Str, x ∈ ([Str.ofString "len", Str.ofString "sum", Str.ofString "chr"] : List Str) → B.mg x = none
  ran : B.mg "range" = none
  sysm : ∃ o, B.hb.get? cStatics = some o ∧ cStatics ≠ B.P
  tab : Has B "_law_table" ["which"] tabB tabS
  sign : Has B "_law_sign" ["x"] signB signS
  bare : Has B "_law_bare" ["word"] bareB bareS
  spel : Has B "_law_spelled" ["sign", "table"] spelB spelS
  wide : Has B "_law_wide" ["name", "table"] wideB wideS
  know : Has B "_law_known" ["mode"] knowB knowS
  star : Has B "_law_start" ["files", "i", "table"] starB starS
  fron : Has B "_law_front" ["files", "i", "table"] fronB fronS
  righ : Has B "_law_right" ["mode", "place"] righB righS
  turn : Has B "_law_turn" ["page", "files", "i", "bit", "table"] turnB turnS
  put : Has B "_law_put" ["page", "files", "i", "p", "sign", "table"] putB putS
  lose : Has B "_law_lose" ["page", "files", "i", "p", "table"] loseB loseS
  come : Has B "_law_come" ["page", "files", "i", "mode", "table"] comeB comeS
  go : Has B "_law_go" ["page", "files", "i", "table"] goB goS
  chan : Has B "_law_change" ["page", "files", "i", "table"] chanB chanS
  deed : Has B "_law_deed" ["page", "files", "x", "table"] deedB deedS

/-- another base keeps what quote needs -/
theorem TopQ.still {B : Wd} (T : TopQ B) {h : Heap} {os g} (hk : ∀ a o, B.hb.get? a = some o → a ≠ B.P → h.get? a = some o) (hP : ∃ o, h.get? B.P = some o) : TopQ (B.still h os g) := by
  obtain ⟨W, Th, ⟨f, p, cd, hf, ⟨⟨o1, e1, r1⟩, ⟨o2, fs, e2, r2⟩, ⟨o3, it, m, e3, r3⟩⟩, h1, h2, h3⟩, fq, hq, F⟩ := T
  obtain ⟨bm, ob, b1, b2, b3, b4, b5, b6, b7⟩ := W.bmain
  obtain ⟨o, e⟩ := Th.c
  refine ⟨⟨W.g.at' fun o e => hk _ o e W.pg, W.b.at' fun o e => hk _ o e W.pb, W.nolimit.at fun o e => hk _ o e W.ps, W.builtins, ⟨bm, ob, b1, b2, hk _ _ b3 b7, b4, b5, b6, b7⟩, W.pg, W.pb, W.ps, W.pc⟩,
    ⟨⟨o, hk _ _ e W.pc⟩, hP⟩, ⟨f, p, cd, hf, ⟨⟨o1, hk _ _ e1 h1, r1⟩, ⟨o2, fs, hk _ _ e2 h2, r2⟩, ⟨o3, it, m, hk _ _ e3 h3, r3⟩⟩, h1, h2, h3⟩, fq, hq, ?_, F.p⟩
  obtain ⟨⟨oo, fd, a1, a2, a3, a4, a5, a6, a7, ⟨c, oc, vs, t, c1, c2, c3, c4⟩, a9⟩, hFp⟩ := F
  exact ⟨oo, fd, hk _ _ a1 hFp, a2, a3, a4, a5, a6, a7, ⟨c, oc, vs, t, c1, c2, hk _ _ c3 c2, c4⟩, a9⟩

theorem strsOf_S : ∀ ls : List (List Nat), strsOf (ls.map fun l => V.str (S l)) = some (ls.map S)
  | [] => rfl
  | l :: r => by
    have := strsOf_S r
    simp only [List.map_cons]
    unfold strsOf
    rw [this]; rfl

set_option maxHeartbeats 1000000 in
theorem join_call {B : Wd} {n : Nat} {H : List O} {ls : List (List Nat)} {k : Nat} {f : Addr} (T : Top B) (hf : B.mg "join" = some (.ref f)) (hk : H[k]? = some (.list (ls.map fun l => V.str (S l)))) (hx : ∀ l ∈ ls, l.length ≤ 10000) (hn : ls.length ≤ 100) :
    CW B (n + 3) (.ref f) [.ref k] H fun v H' => v = .str (S (glue [32] (ls.map quoteL))) ∧ H' = H := by
  obtain ⟨f', hf', F, hcode⟩ := T.join
  rw [hf] at hf'; cases hf'
  refine CW.def T.ok T.there F rfl (fun q cd L hcd => ?_) (by decide +kernel)
  obtain ⟨o, fd, ho, hd, rfl⟩ := hcd
  have hc := hcode o fd ho hd
  obtain ⟨fq, hq, Fq⟩ := T.quote
  have hlen : ∀ y ∈ (ls.map S).map (fun z => S (quoteL z.cps.toList)), y.length ≤ 50002 := fun y hy => by
    simp only [List.map_map, List.mem_map, Function.comp] at hy
    obtain ⟨l, hl, rfl⟩ := hy
    rw [S_len, S_cps]
    have := quoteL_len l
    have := hx l hl
    omega
  refine SW.cons (ST.ret (EW.joinGen (F := fun z => S (quoteL z.cps.toList)) (xs := ls.map S) (m := n + 1) T.ok T.there T.gr T.gk hc hq Fq.callee (fun h os g hkk hP z hz => ?_) (Nat.le_refl _) rfl hk (strsOf_S ls) ?_ ?_ ?_))
  · simp only [List.mem_map] at hz
    obtain ⟨l, hl, rfl⟩ := hz
    have := hx l hl
    exact quote_call (T.toTopQ.still hkk hP) (Nat.zero_le _) hq (by omega)
  · rw [List.length_map]; have : sizeLine = 16777216 := rfl; omega
  · unfold JoinOk
    have := StrLaws.joinFits (sep := Str.ofString " ") hlen (by
      simp only [List.length_map]; have : (Str.ofString " ").length = 1 := rfl
      rw [this]; omega)
    rw [this]; rfl
  · refine ⟨_, H, [], rfl, by simp, Nat.le_refl _, fun h => h, fun k e => (by cases e), ?_, rfl⟩
    have : (ls.map S).map (fun z => S (quoteL z.cps.toList)) = (ls.map quoteL).map S := by simp [Function.comp_def, S_cps]
    rw [this, show (Str.ofString " ") = S [32] from rfl, txtjoin_S]
end Mine

end
section
open PySem PySem.W PySem.Calls PyProof.Rows
set_option maxRecDepth 100000
namespace Mine

/-- a sign, by a table -/
def tabF (t : List (Nat × List Nat)) (k : Nat) : List Nat := match t.lookup k with | some z => z | none => [k]
def mapT (t : List (Nat × List Nat)) (l : List Nat) : List Nat := l.flatMap (tabF t)

theorem sub1_tab {t : List (Nat × List Nat)} {c : Nat} {z : List Nat} (h1 : t.lookup c = none) (h2 : ∀ p ∈ t, c ∉ p.2) (k : Nat) : sub1 c z (tabF t k) = tabF (t ++ [(c, z)]) k := by
  unfold tabF
  rw [List.lookup_append]
  cases hk : t.lookup k with
  | some y =>
    have hm : ∃ p ∈ t, p.2 = y := by
      clear h1 h2
      induction t with
      | nil => cases hk
      | cons p r ih =>
        rw [List.lookup_cons] at hk
        cases hp : k == p.1 with
        | true => rw [hp] at hk; cases hk; exact ⟨p, .head _, rfl⟩
        | false => rw [hp] at hk; obtain ⟨q, hq, e⟩ := ih hk; exact ⟨q, .tail _ hq, e⟩
    obtain ⟨p, hp, rfl⟩ := hm
    exact sub1_free c z _ (h2 p hp)
  | none =>
    show sub1 c z [k] = match List.lookup k [(c, z)] with | some z => z | none => [k]
    rw [List.lookup_cons]
    by_cases h : k = c
    · subst h; simp [sub1]
    · have : (k == c) = false := by simpa using h
      rw [this]
      simp [sub1, h]
theorem sub1_mapT {t : List (Nat × List Nat)} {c : Nat} {z : List Nat} (h1 : t.lookup c = none) (h2 : ∀ p ∈ t, c ∉ p.2) (l : List Nat) : sub1 c z (mapT t l) = mapT (t ++ [(c, z)]) l := by
  unfold mapT
  induction l with
  | nil => rfl
  | cons k r ih => rw [List.flatMap_cons, List.flatMap_cons, sub1_app, ih, sub1_tab h1 h2]
theorem tabF_len {t : List (Nat × List Nat)} (h : ∀ p ∈ t, p.2.length ≤ 6) (k : Nat) : (tabF t k).length ≤ 6 := by
  unfold tabF
  cases hk : t.lookup k with
  | none => simp
  | some y =>
    induction t with
    | nil => cases hk
    | cons p r ih =>
      rw [List.lookup_cons] at hk
      cases hp : k == p.1 with
      | true => rw [hp] at hk; cases hk; exact h p (.head _)
      | false => rw [hp] at hk; exact ih (fun q hq => h q (.tail _ hq)) hk
theorem mapT_len {t : List (Nat × List Nat)} (h : ∀ p ∈ t, p.2.length ≤ 6) (l : List Nat) : (mapT t l).length ≤ 6 * l.length := by
  unfold mapT
  induction l with
  | nil => simp
  | cons k r ih =>
    rw [List.flatMap_cons, List.length_append, List.length_cons]
    have := tabF_len h k
    omega
theorem mapT_nil (l : List Nat) : mapT [] l = l := by
  unfold mapT
  induction l with
  | nil => rfl
  | cons k r ih => rw [List.flatMap_cons, ih]; rfl

def okT (t : List (Nat × List Nat)) (c : Nat) (z : List Nat) : Bool := t.lookup c == none && t.all (fun p => !p.2.contains c && p.2.length ≤ 6) && decide (1 ≤ z.length) && decide (z.length ≤ 6)

theorem upd_same {loc : Loc} {x : Str} {v : V} (h : loc x = some v) : upd loc x v = loc := by
  funext y; unfold upd
  by_cases hy : y = x
  · subst hy; rw [if_pos rfl, h]
  · rw [if_neg hy]

/-- if 'c' in text: text = text.replace('c', z) -/
theorem ST.esc {B : Wd} {n : Nat} {env : Env} {loc : Loc} {H : List O} {Q : Fl → Loc → List O → Prop} {x y z : Str} {k1 k2 k3 : Nat} {p1 p2 p3 p4 p5 p6 p7 p8 p9 pos ipos : Pos} (T : B.There) (ht : 1 ≤ B.t0) (t : List (Nat × List Nat)) (c : Nat) (zl l : List Nat)
    (hy : y = S [c]) (hz : z = S zl) (hyz : (y == z) = false) (hok : okT t c zl = true) (hx : loc x = some (.str (S (mapT t l)))) (hl : l.length ≤ 100000) (q : Q .next (upd loc x (.str (S (mapT (t ++ [(c, zl)]) l)))) H)
    (hk : env.kindOf x = some .local := by rfl) (hd : (x == ("__debug__" : Str)) = false := by decide) (hcd : (x == ("__classdict__" : Str)) = false := by decide) (hline : (p6.endLine == p9.line) = true := by rfl) :
    FW B n env (exec (.If (.Compare (.Constant (.str y) k1 p1) [.In] [.Name x p2] p3) [.Assign [.Name x p4] (.Call (.Attribute (.Name x p5) (Str.ofString "replace") p6) [.Constant (.str y) k2 p7, .Constant (.str z) k3 p8] [] p9) pos] [] ipos) env) loc H Q := by
  simp only [okT, Bool.and_eq_true, beq_iff_eq, decide_eq_true_eq, List.all_eq_true] at hok
  obtain ⟨⟨⟨o1, o2⟩, o3⟩, o4⟩ := hok
  have o2a : ∀ p ∈ t, c ∉ p.2 := fun p hp h => by have := (o2 p hp).1; simp [h] at this
  have o2b : ∀ p ∈ t, p.2.length ≤ 6 := fun p hp => (o2 p hp).2
  have hlen := mapT_len o2b l
  refine ST.ite (TW.compare (EW.cstr (EW.name hx (PW2.ins (TV.bool ?_)) hd hcd)))
  subst hy hz
  rw [in_S]
  rw [← sub1_mapT o1 o2a] at q
  by_cases hc : c ∈ mapT t l
  · rw [decide_eq_true hc]
    refine SW.cons (ST.assign T (EW.replace ht (EW.name hx ⟨S (mapT t l), rfl, hyz, ?_, ?_⟩ hd hcd) rfl hline) hk)
    · rw [S_len, S_len]
      have : ((mapT t l).length + 1) * zl.length ≤ ((mapT t l).length + 1) * 6 := Nat.mul_le_mul_left _ o4
      omega
    · rw [replace_S]; exact SW.nil q
  · rw [decide_eq_false hc]
    refine SW.nil ?_
    rw [sub1_free c zl _ hc, upd_same hx] at q
    exact q

def amp : Nat × List Nat := (38, [38, 97, 109, 112, 59])
def ltt : Nat × List Nat := (60, [38, 108, 116, 59])
def gtt : Nat × List Nat := (62, [38, 103, 116, 59])
def quot : Nat × List Nat := (34, [38, 113, 117, 111, 116, 59])
/-- the five tables -/
def tabOf : Nat → List (Nat × List Nat)
  | 0 => [amp, ltt, gtt, quot, (13, [38, 35, 49, 51, 59]), (10, [38, 35, 49, 48, 59]), (9, [38, 35, 48, 57, 59])]
  | 1 => [amp, ltt, quot, (9, [38, 35, 120, 57, 59]), (10, [38, 35, 120, 65, 59]), (13, [38, 35, 120, 68, 59])]
  | 2 => [amp, gtt, quot]
  | 3 => [amp, ltt, gtt]
  | _ => [amp, ltt, gtt, (13, [38, 35, 120, 68, 59])]

set_option maxHeartbeats 2000000 in
theorem esc0_call {B : Wd} {n : Nat} {H : List O} {l : List Nat} {f : Addr} (T : Top B) (hf : B.mg "_escape_attrib" = some (.ref f)) (hx : l.length ≤ 100000) :
    CW B (n + 1) (.ref f) [.str (S l)] H fun v H' => v = .str (S (mapT (tabOf 0) l)) ∧ H' = H := by
  obtain ⟨f', hf', F⟩ := T.esc0
  rw [hf] at hf'; cases hf'
  have ht : 1 ≤ B.t0 := Nat.le_of_eq T.t0.symm
  refine CW.def T.ok T.there F rfl (fun q cd L _ => ?_) (by decide +kernel)
  rw [show l = mapT [] l from (mapT_nil l).symm]
  refine SW.cons (ST.tryOk (SW.cons (ST.esc T.there ht [] 38 amp.2 l rfl rfl (by decide) (by decide) rfl hx ?_)))
  refine SW.cons (ST.esc T.there ht [amp] 60 ltt.2 l rfl rfl (by decide) (by decide) rfl hx ?_)
  refine SW.cons (ST.esc T.there ht [amp, ltt] 62 gtt.2 l rfl rfl (by decide) (by decide) rfl hx ?_)
  refine SW.cons (ST.esc T.there ht [amp, ltt, gtt] 34 quot.2 l rfl rfl (by decide) (by decide) rfl hx ?_)
  refine SW.cons (ST.esc T.there ht [amp, ltt, gtt, quot] 13 [38, 35, 49, 51, 59] l rfl rfl (by decide) (by decide) rfl hx ?_)
  refine SW.cons (ST.esc T.there ht [amp, ltt, gtt, quot, (13, [38, 35, 49, 51, 59])] 10 [38, 35, 49, 48, 59] l rfl rfl (by decide) (by decide) rfl hx ?_)
  refine SW.cons (ST.esc T.there ht [amp, ltt, gtt, quot, (13, [38, 35, 49, 51, 59]), (10, [38, 35, 49, 48, 59])] 9 [38, 35, 48, 57, 59] l rfl rfl (by decide) (by decide) rfl hx ?_)
  refine SW.cons (ST.ret (EW.name rfl ?_))
  exact ⟨_, H, [], rfl, by simp, Nat.le_refl _, fun h => h, fun k e => (by cases e), by rw [mapT_nil]; rfl, rfl⟩

set_option maxHeartbeats 2000000 in
theorem esc1_call {B : Wd} {n : Nat} {H : List O} {l : List Nat} {f : Addr} (T : Top B) (hf : B.mg "_escape_attrib_c14n" = some (.ref f)) (hx : l.length ≤ 100000) :
    CW B (n + 1) (.ref f) [.str (S l)] H fun v H' => v = .str (S (mapT (tabOf 1) l)) ∧ H' = H := by
  obtain ⟨f', hf', F⟩ := T.esc1
  rw [hf] at hf'; cases hf'
  have ht : 1 ≤ B.t0 := Nat.le_of_eq T.t0.symm
  refine CW.def T.ok T.there F rfl (fun q cd L _ => ?_) (by decide +kernel)
  rw [show l = mapT [] l from (mapT_nil l).symm]
  refine SW.cons (ST.tryOk (SW.cons (ST.esc T.there ht [] 38 amp.2 l rfl rfl (by decide) (by decide) rfl hx ?_)))
  refine SW.cons (ST.esc T.there ht [amp] 60 ltt.2 l rfl rfl (by decide) (by decide) rfl hx ?_)
  refine SW.cons (ST.esc T.there ht [amp, ltt] 34 quot.2 l rfl rfl (by decide) (by decide) rfl hx ?_)
  refine SW.cons (ST.esc T.there ht [amp, ltt, quot] 9 [38, 35, 120, 57, 59] l rfl rfl (by decide) (by decide) rfl hx ?_)
  refine SW.cons (ST.esc T.there ht [amp, ltt, quot, (9, [38, 35, 120, 57, 59])] 10 [38, 35, 120, 65, 59] l rfl rfl (by decide) (by decide) rfl hx ?_)
  refine SW.cons (ST.esc T.there ht [amp, ltt, quot, (9, [38, 35, 120, 57, 59]), (10, [38, 35, 120, 65, 59])] 13 [38, 35, 120, 68, 59] l rfl rfl (by decide) (by decide) rfl hx ?_)
  refine SW.cons (ST.ret (EW.name rfl ?_))
  exact ⟨_, H, [], rfl, by simp, Nat.le_refl _, fun h => h, fun k e => (by cases e), by rw [mapT_nil]; rfl, rfl⟩

set_option maxHeartbeats 2000000 in
theorem esc2_call {B : Wd} {n : Nat} {H : List O} {l : List Nat} {f : Addr} (T : Top B) (hf : B.mg "_escape_attrib_html" = some (.ref f)) (hx : l.length ≤ 100000) :
    CW B (n + 1) (.ref f) [.str (S l)] H fun v H' => v = .str (S (mapT (tabOf 2) l)) ∧ H' = H := by
  obtain ⟨f', hf', F⟩ := T.esc2
  rw [hf] at hf'; cases hf'
  have ht : 1 ≤ B.t0 := Nat.le_of_eq T.t0.symm
  refine CW.def T.ok T.there F rfl (fun q cd L _ => ?_) (by decide +kernel)
  rw [show l = mapT [] l from (mapT_nil l).symm]
  refine SW.cons (ST.tryOk (SW.cons (ST.esc T.there ht [] 38 amp.2 l rfl rfl (by decide) (by decide) rfl hx ?_)))
  refine SW.cons (ST.esc T.there ht [amp] 62 gtt.2 l rfl rfl (by decide) (by decide) rfl hx ?_)
  refine SW.cons (ST.esc T.there ht [amp, gtt] 34 quot.2 l rfl rfl (by decide) (by decide) rfl hx ?_)
  refine SW.cons (ST.ret (EW.name rfl ?_))
  exact ⟨_, H, [], rfl, by simp, Nat.le_refl _, fun h => h, fun k e => (by cases e), by rw [mapT_nil]; rfl, rfl⟩

set_option maxHeartbeats 2000000 in
theorem esc3_call {B : Wd} {n : Nat} {H : List O} {l : List Nat} {f : Addr} (T : Top B) (hf : B.mg "_escape_cdata" = some (.ref f)) (hx : l.length ≤ 100000) :
    CW B (n + 1) (.ref f) [.str (S l)] H fun v H' => v = .str (S (mapT (tabOf 3) l)) ∧ H' = H := by
  obtain ⟨f', hf', F⟩ := T.esc3
  rw [hf] at hf'; cases hf'
  have ht : 1 ≤ B.t0 := Nat.le_of_eq T.t0.symm
  refine CW.def T.ok T.there F rfl (fun q cd L _ => ?_) (by decide +kernel)
  rw [show l = mapT [] l from (mapT_nil l).symm]
  refine SW.cons (ST.tryOk (SW.cons (ST.esc T.there ht [] 38 amp.2 l rfl rfl (by decide) (by decide) rfl hx ?_)))
  refine SW.cons (ST.esc T.there ht [amp] 60 ltt.2 l rfl rfl (by decide) (by decide) rfl hx ?_)
  refine SW.cons (ST.esc T.there ht [amp, ltt] 62 gtt.2 l rfl rfl (by decide) (by decide) rfl hx ?_)
  refine SW.cons (ST.ret (EW.name rfl ?_))
  exact ⟨_, H, [], rfl, by simp, Nat.le_refl _, fun h => h, fun k e => (by cases e), by rw [mapT_nil]; rfl, rfl⟩

set_option maxHeartbeats 2000000 in
theorem esc4_call {B : Wd} {n : Nat} {H : List O} {l : List Nat} {f : Addr} (T : Top B) (hf : B.mg "_escape_cdata_c14n" = some (.ref f)) (hx : l.length ≤ 100000) :
    CW B (n + 1) (.ref f) [.str (S l)] H fun v H' => v = .str (S (mapT (tabOf 4) l)) ∧ H' = H := by
  obtain ⟨f', hf', F⟩ := T.esc4
  rw [hf] at hf'; cases hf'
  have ht : 1 ≤ B.t0 := Nat.le_of_eq T.t0.symm
  refine CW.def T.ok T.there F rfl (fun q cd L _ => ?_) (by decide +kernel)
  rw [show l = mapT [] l from (mapT_nil l).symm]
  refine SW.cons (ST.tryOk (SW.cons (ST.esc T.there ht [] 38 amp.2 l rfl rfl (by decide) (by decide) rfl hx ?_)))
  refine SW.cons (ST.esc T.there ht [amp] 60 ltt.2 l rfl rfl (by decide) (by decide) rfl hx ?_)
  refine SW.cons (ST.esc T.there ht [amp, ltt] 62 gtt.2 l rfl rfl (by decide) (by decide) rfl hx ?_)
  refine SW.cons (ST.esc T.there ht [amp, ltt, gtt] 13 [38, 35, 120, 68, 59] l rfl rfl (by decide) (by decide) rfl hx ?_)
  refine SW.cons (ST.ret (EW.name rfl ?_))
  exact ⟨_, H, [], rfl, by simp, Nat.le_refl _, fun h => h, fun k e => (by cases e), by rw [mapT_nil]; rfl, rfl⟩

end Mine

end
section
open PySem PySem.W PySem.Calls PyProof.Rows
set_option maxRecDepth 100000
namespace Mine

theorem ret_pure {H H' : List O} {Q : V → List O → Prop} {v : V} (hv : ∀ k, v ≠ .ref k) (hH : ∃ G, H' = H ++ G) (q : Q v H) :
    ∃ u H2 G, (match Fl.ret v with | .ret u => u | _ => .none) = u ∧ H' = H2 ++ G ∧ H.length ≤ H2.length ∧ ((∀ o ∈ H, o.Closed H.length) → ∀ o ∈ H2, o.Closed H2.length) ∧ u.Closed H2.length ∧ Q u H2 := by
  obtain ⟨G, hG⟩ := hH
  exact ⟨v, H, G, rfl, hG, Nat.le_refl _, fun h => h, fun k e => absurd e (hv k), q⟩

theorem beq_cast (a b : Nat) : ((a : Int) == (b : Int)) = (a == b) := by
  by_cases h : a = b
  · subst h; simp
  · rw [beq_eq_false_iff_ne.mpr h, beq_eq_false_iff_ne.mpr (show (a : Int) ≠ b by omega)]

theorem band_nat (x y : Nat) : Builtin.bitAnd (x : Int) (y : Int) = ((x &&& y : Nat) : Int) := rfl

theorem ifmt_call {B : Wd} {n : Nat} {H : List O} {m : Nat} {f : Addr} (T : Top B) (hf : B.mg "S_IFMT" = some (.ref f)) :
    CW B (n + 1) (.ref f) [.int m] H fun v H' => v = .int ((m &&& 61440 : Nat) : Int) ∧ H' = H := by
  obtain ⟨f', hf', F⟩ := T.ifmt
  rw [hf] at hf'; cases hf'
  refine CW.def T.ok T.there F rfl (fun q cd L _ => ?_) (by decide +kernel)
  refine SW.cons (ST.ret (EW.binop (EW.name rfl (EW.cint (PW2.band ?_)))))
  exact ret_pure (fun k e => by cases e) ⟨[], by simp⟩ ⟨rfl, rfl⟩

def hit (i m : Nat) (p : Nat × Nat) : Bool := if i = 0 then m &&& 61440 == p.1 else m &&& p.1 == p.1
def rowCh (i m : Nat) (r : List (Nat × Nat)) : Nat := match r.find? (hit i m) with | some p => p.2 | none => if i = 0 then 63 else 45
def fmL (m : Nat) : List Nat := (rows.zipIdx).map fun x => rowCh x.2 m x.1

def extOf : Value → V
  | .ref a => .ext a
  | _ => .none
theorem exts_rel : ∀ (vs : List Value), (∀ v ∈ vs, ∃ a, v = Value.ref a) → VRs [] (vs.map extOf) vs
  | [], _ => .nil
  | v :: r, h => by
    obtain ⟨a, rfl⟩ := h v (.head _)
    exact .cons rfl (exts_rel r fun u hu => h u (.tail _ hu))

def chs (l : List Nat) : List V := l.map fun c => V.str (S [c])
theorem set_last (H : List O) (o o' : O) : (H ++ [o]).set H.length o' = H ++ [o'] := by simp
theorem get_last (H : List O) (o : O) : (H ++ [o])[H.length]? = some o := by simp

theorem fmL_take {i m : Nat} {r : List (Nat × Nat)} (h : rows[i]? = some r) : (fmL m).take (i + 1) = (fmL m).take i ++ [rowCh i m r] := by
  have : (fmL m)[i]? = some (rowCh i m r) := by simp [fmL, List.getElem?_zipIdx, h]
  rw [List.take_add_one, this]; rfl

theorem strsOf_chs (l : List Nat) : strsOf (chs l) = some (l.map fun c => S [c]) := by
  have := strsOf_S (l.map fun c => [c])
  simpa [chs, Function.comp_def] using this
theorem glue_nil : ∀ l : List Nat, glue [] (l.map fun c => [c]) = l
  | [] => rfl
  | [c] => rfl
  | c :: d :: r => by
    have := glue_nil (d :: r)
    show [c] ++ [] ++ glue [] ((d :: r).map fun c => [c]) = _
    rw [this]; rfl

set_option maxHeartbeats 2000000 in
theorem fmode_call {B : Wd} {n : Nat} {H : List O} {m : Nat} {f : Addr} (T : Top B) (hf : B.mg "filemode" = some (.ref f)) :
    CW B (n + 2) (.ref f) [.int m] H fun v H' => v = .str (S (fmL m)) ∧ H' = H := by
  obtain ⟨f', hf', F⟩ := T.fmode
  rw [hf] at hf'; cases hf'
  obtain ⟨t, vs, mm, hg, ht, htP, hlen, hrows⟩ := T.tbl
  obtain ⟨fi, hfi, Fi⟩ := T.ifmt
  have hrefs : ∀ v ∈ vs, ∃ a, v = Value.ref a := fun v hv => by
    obtain ⟨i, hi, rfl⟩ := List.getElem_of_mem hv
    obtain ⟨v', e, a, ws, rfl, _⟩ := hrows i (rows[i]'(by omega)) (List.getElem?_eq_getElem _)
    rw [List.getElem?_eq_getElem hi] at e
    exact ⟨a, Option.some.inj e⟩
  refine CW.def T.ok T.there F rfl (fun q cd L _ => ?_) (by decide +kernel)
  refine SW.cons (ST.assign T.there (EW.list (EWs.nil ⟨by decide, ?_⟩)))
  have happ : ∀ {env : Env} {loc : Loc} {pv : List V} {e : Expr} {c : Nat} {R : V → List O → Prop} {p1 p2 p3 : Pos}, loc "perm" = some (.ref H.length) → pv.length ≤ 20 → EW B (n + 1) env loc e (H ++ [.list pv]) (fun v H' => v = .str (S [c]) ∧ H' = H ++ [.list pv]) → R .none (H ++ [.list (pv ++ [.str (S [c])])]) →
      starEach [e] env = (false, eval e env) :: starEach [] env → (p2.endLine == p3.line) = true →
      ((backTo p3 (starEach [e] env)).all (fun x => !x.1) && (backToKw p3 (keywordEach [] env)).all (fun x => x.1.isSome) && decide (([e] : List Expr).length + ([] : List Keyword).length + (if ([] : List Keyword).isEmpty then 0 else 1) < 30)) = true →
      EW B (n + 1) env loc (.Call (.Attribute (.Name (Str.ofString "perm") p1) (Str.ofString "append") p2) [e] [] p3) (H ++ [.list pv]) R := fun {env loc pv e c R p1 p2 p3} hp hpl he hR hse hline hfew => by
    refine EW.meth PySem.F.plainAttrs_list PySem.F.slot_list_append PySem.F.type_list_append (EW.name hp ⟨⟨_, get_last H _, rfl⟩, EWs.cons (EW.mono he fun v H' hh => ?_) hse⟩) rfl hfew hline hse
    obtain ⟨rfl, rfl⟩ := hh
    refine EWs.nil (CW.append T.there (get_last H _) (by have : sizeLine = 16777216 := rfl; omega) ?_)
    rw [set_last]; exact hR
  refine SW.cons (ST.forEnum T.ok T.there ht htP (exts_rel vs hrefs) hg T.enu (fun i loc H' => i ≤ 10 ∧ loc "mode" = some (.int m) ∧ loc "perm" = some (.ref H.length) ∧ H' = H ++ [.list (chs ((fmL m).take i))]) ⟨Nat.zero_le _, rfl, rfl, rfl⟩ ?_ ?_)
  · rintro i v loc H' hvi ⟨hi10, hmode, hperm, rfl⟩
    have hil : i < rows.length := by
      have := (List.getElem?_eq_some_iff.mp hvi).1
      rw [List.length_map] at this; omega
    obtain ⟨v', hv', a, ws, rfl, hws, haP, hwl, hpairs⟩ := hrows i rows[i] (List.getElem?_eq_getElem hil)
    have hva : v = .ext a := by
      rw [List.getElem?_map, hv'] at hvi
      exact (Option.some.inj hvi).symm
    subst hva
    have hr : rows[i]? = some rows[i] := List.getElem?_eq_getElem hil
    generalize hrr : rows[i] = r at *
    have hi10' : i < 10 := hil
    have hnext := fmL_take (m := m) hr
    have hpl : (chs ((fmL m).take i)).length ≤ 20 := by simp [chs]; omega
    have hrefs2 : ∀ w ∈ ws, ∃ b, w = Value.ref b := fun w hw => by
      obtain ⟨j, hj, rfl⟩ := List.getElem_of_mem hw
      obtain ⟨w', e, b, t, u, rfl, _⟩ := hpairs j (r[j]'(by omega)) (List.getElem?_eq_getElem _)
      rw [List.getElem?_eq_getElem hj] at e
      exact ⟨b, Option.some.inj e⟩
    refine SW.cons (ST.for T.there (EW.name (v := .ext a) rfl ?_))
    refine ⟨ws.map extOf, fun _ => True, fun j loc' H' => j ≤ r.length ∧ loc' "mode" = some (.int m) ∧ loc' "perm" = some (.ref H.length) ∧ loc' "index" = some (.int i) ∧ H' = H ++ [.list (chs ((fmL m).take i))] ∧ ∀ p ∈ r.take j, hit i m p = false,
      IT.xtup hws haP (exts_rel ws hrefs2), ⟨Nat.zero_le _, hmode, hperm, rfl, rfl, by simp⟩, fun _ _ _ _ => trivial, ?_, ?_⟩
    · rintro j w loc2 H2 hwj ⟨hj, h1, h2, h3, rfl, hno⟩
      have hjl : j < r.length := by
        have := (List.getElem?_eq_some_iff.mp hwj).1
        rw [List.length_map] at this; omega
      obtain ⟨w', hw', b, tb, ub, rfl, htup, hbP⟩ := hpairs j r[j] (List.getElem?_eq_getElem hjl)
      have hwb : w = .ext b := by
        rw [List.getElem?_map, hw'] at hwj
        exact (Option.some.inj hwj).symm
      subst hwb
      have hrj : r[j]? = some r[j] := List.getElem?_eq_getElem hjl
      generalize hpp : r[j] = p at *
      obtain ⟨bit, ch⟩ := p
      refine AW.xpair (v := .int bit) (w := .str (S [ch])) T.there htup hbP ⟨tb, rfl⟩ ⟨ub, rfl⟩ ?_
      have hfind_none : hit i m (bit, ch) = false → ∀ p ∈ r.take (j + 1), hit i m p = false := fun hh p hp => by
        rw [List.take_add_one, hrj] at hp
        rcases List.mem_append.mp hp with hp | hp
        · exact hno p hp
        · simp at hp; subst hp; exact hh
      have hfound : hit i m (bit, ch) = true → rowCh i m r = ch := fun hh => by
        unfold rowCh
        have : r.find? (hit i m) = some (bit, ch) := by
          have h5 : r = r.take j ++ (bit, ch) :: r.drop (j + 1) := by
            conv => lhs; rw [← List.take_append_drop j r]
            rw [List.drop_eq_getElem_cons hjl, hpp]
          rw [h5, List.find?_append]
          have h6 : (r.take j).find? (hit i m) = none := by
            rw [List.find?_eq_none]; intro p hp; rw [hno p hp]; decide
          rw [h6, List.find?_cons_of_pos hh]; rfl
        rw [this]
      have hend : hit i m (bit, ch) = true → H ++ [O.list (chs ((fmL m).take i) ++ [.str (S [ch])])] = H ++ [.list (chs ((fmL m).take (i + 1)))] := fun hh => by
        rw [hnext, hfound hh]; simp [chs]
      refine SW.cons (ST.ite (TW.compare (EW.name h3 (EW.cint (PW2.eqi (TV.bool ?_))))))
      by_cases hi0 : i = 0
      · subst hi0
        refine SW.cons (ST.ite (TW.compare (EW.call T.ok (.top hfi) Fi.callee (EWs.cons (EW.name h1 (EWs.nil (CW.mono (ifmt_call T hfi) fun v H' hv => ?_)))))))
        obtain ⟨rfl, rfl⟩ := hv
        refine EW.name rfl (PW2.eqi (TV.bool ?_))
        have hh : (((m &&& 61440 : Nat) : Int) == (bit : Int)) = hit 0 m (bit, ch) := by
          unfold hit; rw [if_pos rfl]; exact beq_cast _ _
        rw [hh]
        cases hb : hit 0 m (bit, ch) with
        | true =>
          refine SW.cons (ST.expr (happ (c := ch) h2 hpl (EW.name rfl ⟨rfl, rfl⟩) ?_ rfl rfl rfl))
          refine SW.cons (ST.brk ?_)
          refine SW.nil ⟨by omega, h1, h2, hend hb⟩
        | false =>
          refine SW.nil (SW.nil ?_)
          exact SW.nil ⟨by omega, h1, h2, h3, rfl, hfind_none hb⟩
      · rw [show ((i : Int) == 0) = false from beq_eq_false_iff_ne.mpr (by omega)]
        refine SW.cons (ST.ite (TW.compare (EW.binop (EW.name h1 (EW.name rfl (PW2.band (EW.name rfl (PW2.eqi (TV.bool ?_)))))))))
        rw [band_nat]
        have hh : (((m &&& bit : Nat) : Int) == (bit : Int)) = hit i m (bit, ch) := by
          unfold hit; rw [if_neg hi0]; exact beq_cast _ _
        rw [hh]
        cases hb : hit i m (bit, ch) with
        | true =>
          refine SW.cons (ST.expr (happ (c := ch) h2 hpl (EW.name rfl ⟨rfl, rfl⟩) ?_ rfl rfl rfl))
          refine SW.cons (ST.brk ?_)
          refine SW.nil ⟨by omega, h1, h2, hend hb⟩
        | false =>
          refine SW.nil (SW.nil ?_)
          exact SW.nil ⟨by omega, h1, h2, h3, rfl, hfind_none hb⟩
    · rintro loc2 H2 ⟨hj, h1, h2, h3, rfl, hno⟩
      have hnone : r.find? (hit i m) = none := by
        rw [List.find?_eq_none]; intro p hp
        have : p ∈ r.take (ws.map extOf).length := by
          rw [List.length_map, hwl, List.take_length]; exact hp
        rw [hno p this]; decide
      refine SW.cons (ST.ite (TW.compare (EW.name h3 (EW.cint (PW2.eqi (TV.bool ?_))))))
      by_cases hi0 : i = 0
      · subst hi0
        refine SW.cons (ST.expr (happ (c := 63) h2 hpl (EW.cstr ⟨rfl, rfl⟩) ?_ rfl rfl rfl))
        refine SW.nil (SW.nil (SW.nil ⟨by omega, h1, h2, ?_⟩))
        rw [hnext, show rowCh 0 m r = 63 by unfold rowCh; rw [hnone]; rfl]; simp [chs]
      · rw [show ((i : Int) == 0) = false from beq_eq_false_iff_ne.mpr (by omega)]
        refine SW.cons (ST.expr (happ (c := 45) h2 hpl (EW.cstr ⟨rfl, rfl⟩) ?_ rfl rfl rfl))
        refine SW.nil (SW.nil (SW.nil ⟨by omega, h1, h2, ?_⟩))
        rw [hnext, show rowCh i m r = 45 by unfold rowCh; rw [hnone]; exact if_neg hi0]; simp [chs]
  · rintro loc H' ⟨_, hmode, hperm, rfl⟩
    refine SW.nil ?_
    rw [List.length_map, hlen, List.take_of_length_le (show (fmL m).length ≤ rows.length by simp [fmL])]
    refine SW.cons (ST.ret (EW.meth PySem.F.plainAttrs_str PySem.F.slot_str_join PySem.F.type_str_join (EW.cstr ⟨rfl, EWs.cons (EW.name hperm (EWs.nil (CW.join (get_last H _) (strsOf_chs _) ?_ ?_)))⟩)))
    · have : (fmL m).length = 10 := by simp [fmL, rows]
      unfold JoinOk
      have := StrLaws.joinFits (sep := Str.ofString "") (texts := (fmL m).map fun c => S [c]) (B := 1) (fun y hy => by
        simp only [List.mem_map] at hy
        obtain ⟨c, _, rfl⟩ := hy
        rw [S_len]; exact Nat.le_refl _) (by simp only [List.length_map]; have : (Str.ofString "").length = 0 := rfl; rw [this]; omega)
      rw [this]; rfl
    · refine ret_pure (fun k e => by cases e) ⟨_, rfl⟩ ⟨?_, rfl⟩
      have h1 : ((fmL m).map fun c => S [c]) = ((fmL m).map fun c => [c]).map S := by simp [Function.comp_def]
      rw [h1, show (Str.ofString "") = S [] from rfl, txtjoin_S, glue_nil]

/-- _law_written_by -/
theorem wby_call {B : Wd} {n : Nat} {H : List O} {l : List Nat} {w : Nat} {f : Addr} (T : Top B) (hf : B.mg "_law_written_by" = some (.ref f)) (hw : w < 5) (hx : l.length ≤ 100000) :
    CW B (n + 2) (.ref f) [.int w, .str (S l)] H fun v H' => v = .str (S (mapT (tabOf w) l)) ∧ H' = H := by
  obtain ⟨f', hf', F⟩ := T.wby
  rw [hf] at hf'; cases hf'
  obtain ⟨f0, hf0, F0⟩ := T.esc0
  obtain ⟨f1, hf1, F1⟩ := T.esc1
  obtain ⟨f2, hf2, F2⟩ := T.esc2
  obtain ⟨f3, hf3, F3⟩ := T.esc3
  obtain ⟨f4, hf4, F4⟩ := T.esc4
  refine CW.def T.ok T.there F rfl (fun q cd L _ => ?_) (by decide +kernel)
  have fin : ∀ {w : Nat} {v : V} {H' : List O}, (v = .str (S (mapT (tabOf w) l)) ∧ H' = H) → ∃ u H2 G, (match Fl.ret v with | .ret u => u | _ => .none) = u ∧ H' = H2 ++ G ∧ H.length ≤ H2.length ∧ ((∀ o ∈ H, o.Closed H.length) → ∀ o ∈ H2, o.Closed H2.length) ∧ u.Closed H2.length ∧ (u = .str (S (mapT (tabOf w) l)) ∧ H2 = H) := fun {w v H'} h => by
    obtain ⟨rfl, rfl⟩ := h
    exact ret_pure (Q := fun v H2 => v = _ ∧ H2 = H') (fun k e => by cases e) ⟨[], by simp⟩ ⟨rfl, rfl⟩
  match w, hw with
  | 0, _ =>
    refine SW.cons (ST.ite (TW.compare (EW.name rfl (EW.cint (PW2.eqi (TV.bool ?_))))))
    exact SW.cons (ST.ret (EW.call T.ok (.top hf0) F0.callee (EWs.cons (EW.name rfl (EWs.nil (CW.mono (esc0_call T hf0 hx) fun v H' h => fin h))))))
  | 1, _ =>
    refine SW.cons (ST.ite (TW.compare (EW.name rfl (EW.cint (PW2.eqi (TV.bool ?_))))))
    refine SW.nil (SW.cons (ST.ite (TW.compare (EW.name rfl (EW.cint (PW2.eqi (TV.bool ?_)))))))
    exact SW.cons (ST.ret (EW.call T.ok (.top hf1) F1.callee (EWs.cons (EW.name rfl (EWs.nil (CW.mono (esc1_call T hf1 hx) fun v H' h => fin h))))))
  | 2, _ =>
    refine SW.cons (ST.ite (TW.compare (EW.name rfl (EW.cint (PW2.eqi (TV.bool ?_))))))
    refine SW.nil (SW.cons (ST.ite (TW.compare (EW.name rfl (EW.cint (PW2.eqi (TV.bool ?_)))))))
    refine SW.nil (SW.cons (ST.ite (TW.compare (EW.name rfl (EW.cint (PW2.eqi (TV.bool ?_)))))))
    exact SW.cons (ST.ret (EW.call T.ok (.top hf2) F2.callee (EWs.cons (EW.name rfl (EWs.nil (CW.mono (esc2_call T hf2 hx) fun v H' h => fin h))))))
  | 3, _ =>
    refine SW.cons (ST.ite (TW.compare (EW.name rfl (EW.cint (PW2.eqi (TV.bool ?_))))))
    refine SW.nil (SW.cons (ST.ite (TW.compare (EW.name rfl (EW.cint (PW2.eqi (TV.bool ?_)))))))
    refine SW.nil (SW.cons (ST.ite (TW.compare (EW.name rfl (EW.cint (PW2.eqi (TV.bool ?_)))))))
    refine SW.nil (SW.cons (ST.ite (TW.compare (EW.name rfl (EW.cint (PW2.eqi (TV.bool ?_)))))))
    exact SW.cons (ST.ret (EW.call T.ok (.top hf3) F3.callee (EWs.cons (EW.name rfl (EWs.nil (CW.mono (esc3_call T hf3 hx) fun v H' h => fin h))))))
  | 4, _ =>
    refine SW.cons (ST.ite (TW.compare (EW.name rfl (EW.cint (PW2.eqi (TV.bool ?_))))))
    refine SW.nil (SW.cons (ST.ite (TW.compare (EW.name rfl (EW.cint (PW2.eqi (TV.bool ?_)))))))
    refine SW.nil (SW.cons (ST.ite (TW.compare (EW.name rfl (EW.cint (PW2.eqi (TV.bool ?_)))))))
    refine SW.nil (SW.cons (ST.ite (TW.compare (EW.name rfl (EW.cint (PW2.eqi (TV.bool ?_)))))))
    refine SW.nil ?_
    exact SW.cons (ST.ret (EW.call T.ok (.top hf4) F4.callee (EWs.cons (EW.name rfl (EWs.nil (CW.mono (esc4_call T hf4 hx) fun v H' h => fin h))))))
  | k + 5, h => omega
end Mine

end
section
open PySem PySem.W PySem.Calls PyProof.Rows
set_option maxRecDepth 100000
namespace Mine

theorem EW.and2 {B : Wd} {n : Nat} {env : Env} {loc : Loc} {H : List O} {Q : V → List O → Prop} {a b : Expr} {pos : Pos} (h : EW B n env loc a H fun v H1 => TV B n v H1 fun x H2 => cond x (EW B n env loc b H2 Q) (Q v H2)) : EW B n env loc (.BoolOp .And [a, b] pos) H Q :=
  fun A E s ρ QQ hA S L kk => by
    refine wpAny_And2 (h A E s ρ _ hA S L fun v v' H1 ρ1 s1 q vv S1 st1 => q A E s1 ρ1 v' _ hA S1 vv fun x H2 ρ2 s2 q2 S2 st2 => ?_)
    cases x with
    | true => exact q2 A E s2 ρ2 _ hA S2 ((L.step st1).step st2) fun v v' H3 ρ3 s3 q3 vv3 S3 st3 => kk v v' H3 ρ3 s3 q3 vv3 S3 ((st1.trans S1 st2).trans S2 st3)
    | false => exact kk v v' H2 ρ2 s2 q2 (st2.mono vv) S2 (st1.trans S1 st2)

theorem O.Closed.mono {o : O} {n m : Nat} (h : o.Closed n) (hm : n ≤ m) : o.Closed m := by
  cases o with
  | list vs => exact fun k hk => Nat.lt_of_lt_of_le (h k hk) hm
  | _ => trivial

def dictOf (t : List (Nat × List Nat)) : List (PyData × PyData) := t.map fun p => (.str (S [p.1]), .str (S p.2))
def tabD : Nat → List (Nat × List Nat)
  | 0 => [amp, ltt, gtt, quot, (13, [38, 35, 49, 51, 59]), (10, [38, 35, 49, 48, 59]), (9, [38, 35, 48, 57, 59])]
  | 1 => [amp, ltt, quot, (13, [38, 35, 120, 68, 59]), (10, [38, 35, 120, 65, 59]), (9, [38, 35, 120, 57, 59])]
  | 2 => [amp, gtt, quot]
  | 3 => [amp, ltt, gtt]
  | _ => [amp, ltt, gtt, (13, [38, 35, 120, 68, 59])]

theorem lookup_dict (t : List (Nat × List Nat)) (c : Nat) : PySem.Spec.lookup (.str (S [c])) (dictOf t) = (t.lookup c).map fun z => .str (S z) := by
  induction t with
  | nil => rfl
  | cons p r ih =>
    show (if PySem.Spec.same (.str (S [p.1])) (.str (S [c])) = true then some (PyData.str (S p.2)) else PySem.Spec.lookup (.str (S [c])) (dictOf r)) = _
    rw [List.lookup_cons, ih]
    have e : PySem.Spec.same (.str (S [p.1])) (.str (S [c])) = (c == p.1) := by
      show (S [p.1] == S [c]) = _
      rw [S_beq]
      by_cases h : c = p.1
      · subst h; simp
      · have h1 : ¬ ([p.1] = [c]) := fun e => h (by injection e with e; exact e.symm)
        rw [decide_eq_false h1, beq_eq_false_iff_ne.mpr h]
    rw [e]
    cases c == p.1 <;> rfl
theorem getD_dict (t : List (Nat × List Nat)) (c : Nat) (d : List Nat) : getD (dictOf t) (S [c]) (S d) = S ((t.lookup c).getD d) := by
  unfold getD
  rw [lookup_dict]
  cases t.lookup c <;> rfl
theorem tabF_get (t : List (Nat × List Nat)) (c : Nat) : (t.lookup c).getD [c] = tabF t c := by
  unfold tabF; cases t.lookup c <;> rfl

theorem tab_call {B : Wd} {n : Nat} {H : List O} {w : Nat} {f : Addr} (T : Top B) (hf : B.mg "_law_table" = some (.ref f)) (hw : w < 5) :
    CW B (n + 1) (.ref f) [.int w] H fun v H' => v = .ref H.length ∧ H' = H ++ [.dict (dictOf (tabD w))] := by
  obtain ⟨f', hf', F⟩ := T.tab
  rw [hf] at hf'; cases hf'
  refine CW.def T.ok T.there F rfl (fun q cd L _ => ?_) (by decide +kernel)
  have fin : ∀ {w' : Nat}, ∃ u H2 G, (match Fl.ret (V.ref H.length) with | .ret u => u | _ => .none) = u ∧ H ++ [O.dict (dictOf (tabD w'))] = H2 ++ G ∧ H.length ≤ H2.length ∧ ((∀ o ∈ H, o.Closed H.length) → ∀ o ∈ H2, o.Closed H2.length) ∧ u.Closed H2.length ∧ (u = .ref H.length ∧ H2 = H ++ [.dict (dictOf (tabD w'))]) := fun {w'} =>
    ⟨_, _, [], rfl, by simp, by simp, fun h o ho => (by
      rcases List.mem_append.mp ho with ho | ho
      · exact (h o ho).mono (by simp)
      · rw [List.mem_singleton.mp ho]; trivial), fun k e => (by cases e; simp), rfl, rfl⟩
  match w, hw with
  | 0, _ =>
    refine SW.cons (ST.ite (TW.compare (EW.name rfl (EW.cint (PW2.eqi (TV.bool ?_))))))
    refine SW.cons ?_
    refine ST.ret ?_
    with_reducible refine EW.dict (D := dictOf (tabD 0)) T.sysm ?_ ?_ ?_ ?_ ?_ ?_ ?_ ?_
    · rfl
    · decide +kernel
    · decide +kernel
    · rfl
    · rfl
    · exact List.cons_ne_nil _ _
    · decide
    · exact fin
  | 1, _ =>
    refine SW.cons (ST.ite (TW.compare (EW.name rfl (EW.cint (PW2.eqi (TV.bool ?_))))))
    refine SW.nil (SW.cons (ST.ite (TW.compare (EW.name rfl (EW.cint (PW2.eqi (TV.bool ?_)))))))
    refine SW.cons ?_
    refine ST.ret ?_
    with_reducible refine EW.dict (D := dictOf (tabD 1)) T.sysm ?_ ?_ ?_ ?_ ?_ ?_ ?_ ?_
    · rfl
    · decide +kernel
    · decide +kernel
    · rfl
    · rfl
    · exact List.cons_ne_nil _ _
    · decide
    · exact fin
  | 2, _ =>
    refine SW.cons (ST.ite (TW.compare (EW.name rfl (EW.cint (PW2.eqi (TV.bool ?_))))))
    refine SW.nil (SW.cons (ST.ite (TW.compare (EW.name rfl (EW.cint (PW2.eqi (TV.bool ?_)))))))
    refine SW.nil (SW.cons (ST.ite (TW.compare (EW.name rfl (EW.cint (PW2.eqi (TV.bool ?_)))))))
    refine SW.cons ?_
    refine ST.ret ?_
    with_reducible refine EW.dict (D := dictOf (tabD 2)) T.sysm ?_ ?_ ?_ ?_ ?_ ?_ ?_ ?_
    · rfl
    · decide +kernel
    · decide +kernel
    · rfl
    · rfl
    · exact List.cons_ne_nil _ _
    · decide
    · exact fin
  | 3, _ =>
    refine SW.cons (ST.ite (TW.compare (EW.name rfl (EW.cint (PW2.eqi (TV.bool ?_))))))
    refine SW.nil (SW.cons (ST.ite (TW.compare (EW.name rfl (EW.cint (PW2.eqi (TV.bool ?_)))))))
    refine SW.nil (SW.cons (ST.ite (TW.compare (EW.name rfl (EW.cint (PW2.eqi (TV.bool ?_)))))))
    refine SW.nil (SW.cons (ST.ite (TW.compare (EW.name rfl (EW.cint (PW2.eqi (TV.bool ?_)))))))
    refine SW.cons ?_
    refine ST.ret ?_
    with_reducible refine EW.dict (D := dictOf (tabD 3)) T.sysm ?_ ?_ ?_ ?_ ?_ ?_ ?_ ?_
    · rfl
    · decide +kernel
    · decide +kernel
    · rfl
    · rfl
    · exact List.cons_ne_nil _ _
    · decide
    · exact fin
  | 4, _ =>
    refine SW.cons (ST.ite (TW.compare (EW.name rfl (EW.cint (PW2.eqi (TV.bool ?_))))))
    refine SW.nil (SW.cons (ST.ite (TW.compare (EW.name rfl (EW.cint (PW2.eqi (TV.bool ?_)))))))
    refine SW.nil (SW.cons (ST.ite (TW.compare (EW.name rfl (EW.cint (PW2.eqi (TV.bool ?_)))))))
    refine SW.nil (SW.cons (ST.ite (TW.compare (EW.name rfl (EW.cint (PW2.eqi (TV.bool ?_)))))))
    refine SW.nil ?_
    refine SW.cons ?_
    refine ST.ret ?_
    with_reducible refine EW.dict (D := dictOf (tabD 4)) T.sysm ?_ ?_ ?_ ?_ ?_ ?_ ?_ ?_
    · rfl
    · decide +kernel
    · decide +kernel
    · rfl
    · rfl
    · exact List.cons_ne_nil _ _
    · decide
    · exact fin
  | k + 5, h => omega

def signOf (x : Int) : Nat := if (x.fmod 1112064).toNat < 55296 then (x.fmod 1112064).toNat else (x.fmod 1112064).toNat + 2048

theorem globB {B : Wd} {x : Str} {v : Value} (h : B.mg x = none) (hn : x ≠ "__name__") (hb : bootBuiltins x = some v) : Glob B x v := .boot h hn hb

theorem sign_call {B : Wd} {n : Nat} {H : List O} {x : Int} {f : Addr} (T : Top B) (hf : B.mg "_law_sign" = some (.ref f)) :
    CW B (n + 1) (.ref f) [.int x] H fun v H' => v = .str (S [signOf x]) ∧ H' = H := by
  obtain ⟨f', hf', F⟩ := T.sign
  rw [hf] at hf'; cases hf'
  have gchr : Glob B "chr" (.builtin "chr") := globB (T.bi _ (by simp)) (by decide) (by rfl)
  refine CW.def T.ok T.there F rfl (fun q cd L _ => ?_) (by decide +kernel)
  refine SW.cons (ST.assign T.there (EW.binop (EW.name rfl (EW.cint (PW2.fmod (by decide) ?_)))))
  have h0 : 0 ≤ x.fmod 1112064 := Int.fmod_nonneg_of_pos _ (by decide)
  have h1 : x.fmod 1112064 < 1112064 := Int.fmod_lt_of_pos _ (by decide)
  refine SW.cons (ST.ret (EW.ifexp (TW.compare (EW.name rfl (EW.cint (PW2.lti (TV.bool ?_)))))))
  by_cases hlt : x.fmod 1112064 < 55296
  · rw [decide_eq_true hlt]
    refine EW.call T.ok gchr (.builtin _) (EWs.cons (EW.name rfl (EWs.nil (CW.chr h0 (by omega) ?_))))
    refine ret_pure (fun k e => by cases e) ⟨[], by simp⟩ ⟨?_, rfl⟩
    unfold signOf; rw [if_pos (by omega)]; rfl
  · rw [decide_eq_false hlt]
    refine EW.call T.ok gchr (.builtin _) (EWs.cons (EW.binop (EW.name rfl (EW.cint (PW2.add (EWs.nil (CW.chr (by omega) (by omega) ?_)))))))
    refine ret_pure (fun k e => by cases e) ⟨[], by simp⟩ ⟨?_, rfl⟩
    unfold signOf; rw [if_neg (by omega)]
    have : (x.fmod 1112064 + 2048).toNat = (x.fmod 1112064).toNat + 2048 := by omega
    rw [this]; rfl
end Mine

end
section
open PySem PySem.W PySem.Calls PyProof.Rows
set_option maxRecDepth 100000
namespace Mine

def safeStr : Str := Str.ofString "ABCDEFGHIJKLMNOPQRSTUVWXYZabcdefghijklmnopqrstuvwxyz0123456789_@%+=:,./-"
def safeL : List Nat := safeStr.cps.toList

theorem safe_small : ∀ c : Fin 256, safeCp c.1 = safeL.contains c.1 := by decide +kernel
theorem safeL_small : ∀ c ∈ safeL, c < 256 := by decide +kernel
theorem safe_is (c : Nat) : safeCp c = decide (c ∈ safeL) := by
  by_cases h : c < 256
  · have := safe_small ⟨c, h⟩
    rw [this]
    by_cases hm : c ∈ safeL <;> simp [hm]
  · have h1 : ¬ c ∈ safeL := fun m => h (safeL_small c m)
    have h2 : safeCp c = false := by
      unfold safeCp Sre.isWord Sre.isDigit
      simp [h]
      omega
    rw [h2, decide_eq_false h1]

theorem locC_upd {S : Scope} {loc : Loc} {y : Str} {w : V} (h : (S.names.lookup y == some .free) = false) : ∀ x v, locC S loc x = some v → upd (locC S loc) y w x = some v := fun x v e => by
  unfold upd
  by_cases hx : x = y
  · subst hx; unfold locC at e; rw [h] at e; cases e
  · rw [if_neg hx]; exact e

theorem PW2.addS {B : Wd} {n : Nat} {H : List O} {Q : V → List O → Prop} {x y : Str} (l m : List Nat) (hsz : l.length + m.length ≤ 1000000) (q : Q (.str (S (l ++ m))) H) (hx : x = S l := by rfl) (hy : y = S m := by rfl) :
    PW2 B n (binaryOp .Add) (.str x) (.str y) H Q := by
  subst hx hy
  have : sizeLine = 16777216 := rfl
  refine PW2.adds (by rw [S_len, S_len]; omega) ?_
  rw [S_app]; exact q

def bareL (l : List Nat) : Bool := decide (l ≠ []) && l.all safeCp

theorem signs_S (l : List Nat) (i : Nat) (v : V) (h : (signs (S l))[i]? = some v) : ∃ c, l[i]? = some c ∧ v = .str (S [c]) := by
  unfold signs at h
  rw [S_cps, List.getElem?_map] at h
  cases e : l[i]? with
  | none => rw [e] at h; cases h
  | some c => rw [e] at h; exact ⟨c, rfl, (Option.some.inj h).symm⟩
theorem signs_len (l : List Nat) : (signs (S l)).length = l.length := by unfold signs; rw [List.length_map, S_cps]

set_option maxHeartbeats 1000000 in
theorem bare_call {B : Wd} {n : Nat} {H : List O} {l : List Nat} {f : Addr} (T : Top B) (hf : B.mg "_law_bare" = some (.ref f)) (hl : l.length ≤ 100000) :
    CW B (n + 1) (.ref f) [.str (S l)] H fun v H' => v = .bool (bareL l) ∧ H' = H := by
  obtain ⟨f', hf', F⟩ := T.bare
  rw [hf] at hf'; cases hf'
  have hsl : sizeLine = 16777216 := rfl
  refine CW.def T.ok T.there F rfl (fun q cd L _ => ?_) (by decide +kernel)
  refine SW.cons (ST.assignC T.there (EW.cstr ?_))
  refine SW.cons (ST.ret ?_)
  refine EW.and2 (EW.compare (EW.name rfl (EW.cstr (PW2.nes (TV.bool ?_)))))
  rw [show (Str.ofString "") = S [] from rfl, show (S l != S []) = decide (l ≠ []) by rw [bne, S_beq]; simp]
  by_cases h0 : l = []
  · subst h0
    exact ret_pure (fun k e => by cases e) ⟨[], by simp⟩ ⟨rfl, rfl⟩
  · rw [decide_eq_true h0]
    refine EW.compare (EW.comp T.there (EW.name rfl ?_))
    refine ⟨signs (S l), fun _ => True, fun i acc H' => H' = H ∧ acc = ((l.take i).filter fun c => !safeCp c).map fun c => V.str (S [c]), IT.str, by rw [signs_len]; omega, ⟨rfl, rfl⟩, ?_, ?_, ?_⟩
    · rintro i acc H' ⟨rfl, rfl⟩
      refine ⟨trivial, ?_⟩
      rw [List.length_map]
      refine Nat.le_trans (List.length_filter_le _ _) ?_
      rw [List.length_take]; omega
    · rintro i v acc H' C hv ⟨rfl, rfl⟩
      obtain ⟨c, hc, rfl⟩ := signs_S l i v hv
      refine AW.name T.there ⟨locC_upd rfl, ?_⟩
      refine TW.compare (EW.name rfl (EW.name (v := .str safeStr) rfl (PW2.nins (TV.bool ?_))))
      rw [show safeStr = S safeL from S_of safeStr, in_S, ← safe_is]
      cases hs : safeCp c with
      | true =>
        refine ⟨rfl, ?_⟩
        rw [List.take_add_one, hc, List.filter_append, List.map_append]
        simp [hs]
      | false =>
        refine EW.name rfl ⟨rfl, ?_⟩
        rw [List.take_add_one, hc, List.filter_append, List.map_append]
        simp [hs]
    · rintro acc H' ⟨rfl, rfl⟩
      rw [signs_len, List.take_length]
      refine EW.list (EWs.nil ⟨by decide, ?_⟩)
      refine PW2.eqNil (vs := (l.filter fun c => !safeCp c).map fun c => V.str (S [c])) (by simp) (by simp) ?_
      refine ret_pure (fun k e => by cases e) ⟨_, List.append_assoc _ _ _⟩ ⟨?_, rfl⟩
      have : ((l.filter fun c => !safeCp c).map fun c => V.str (S [c])).isEmpty = l.all safeCp := by
        rw [List.isEmpty_map]
        induction l with
        | nil => rfl
        | cons c r ih =>
          clear ih h0 hl
          induction r generalizing c with
          | nil => cases hs : safeCp c <;> simp [hs]
          | cons d r ih =>
            have := ih d
            cases hs : safeCp c
            · simp [hs]
            · simp only [List.filter_cons, hs, List.all_cons, Bool.true_and] at this ⊢
              simpa using this
      rw [this]; unfold bareL; rw [decide_eq_true h0]; rfl

/-- how a sign is written between quotes -/
def spell (w c : Nat) : List Nat := if c = 39 then [39] ++ tabF (tabD w) 34 ++ [39] ++ tabF (tabD w) 34 ++ [39] else tabF (tabD w) c

theorem tabD_len (w : Nat) : ∀ p ∈ tabD w, p.2.length ≤ 6 := by
  unfold tabD; split <;> decide
theorem spell_len (w c : Nat) : (spell w c).length ≤ 15 := by
  unfold spell
  have := tabF_len (tabD_len w) 34
  have := tabF_len (tabD_len w) c
  split
  · simp only [List.length_append, List.length_cons, List.length_nil]; omega
  · omega

theorem dict_strs (t : List (Nat × List Nat)) (c : Nat) : ∀ y, PySem.Spec.lookup (.str (S [c])) (dictOf t) = some y → ∃ z, y = .str z := fun y h => by
  rw [lookup_dict] at h
  cases e : t.lookup c with
  | none => rw [e] at h; cases h
  | some z => rw [e] at h; exact ⟨S z, (Option.some.inj h).symm⟩

set_option maxHeartbeats 1000000 in
theorem spel_call {B : Wd} {n : Nat} {H : List O} {c w kt : Nat} {f : Addr} (T : Top B) (hf : B.mg "_law_spelled" = some (.ref f)) (hk : H[kt]? = some (.dict (dictOf (tabD w)))) :
    CW B (n + 1) (.ref f) [.str (S [c]), .ref kt] H fun v H' => v = .str (S (spell w c)) ∧ H' = H := by
  obtain ⟨f', hf', F⟩ := T.spel
  rw [hf] at hf'; cases hf'
  have hsl : sizeLine = 16777216 := rfl
  refine CW.def T.ok T.there F rfl (fun q cd L _ => ?_) (by decide +kernel)
  refine SW.cons (ST.ite (TW.compare (EW.name rfl (EW.cstr (PW2.nes (TV.bool ?_))))))
  rw [show (Str.ofString "'") = S [39] from rfl, show (S [c] != S [39]) = decide (c ≠ 39) by rw [bne, S_beq]; simp]
  by_cases hc : c = 39
  · subst hc
    have hm := tabF_len (tabD_len w) 34
    refine SW.nil ?_
    refine SW.cons (ST.assign T.there (EW.meth PySem.F.plainAttrs_dict PySem.F.slot_dict_get PySem.F.type_dict_get (EW.name rfl ⟨⟨_, hk, rfl⟩, EWs.cons (EW.cstr (EWs.cons (EW.cstr (EWs.nil (CW.get hk (dict_strs _ 34) ?_)))))⟩)))
    rw [show getD (dictOf (tabD w)) (Str.ofString "\"") (Str.ofString "\"") = S (tabF (tabD w) 34) from (getD_dict _ 34 [34]).trans (congrArg S (tabF_get _ _))]
    refine SW.cons (ST.ret (EW.binop (EW.binop (EW.binop (EW.binop (EW.cstr (EW.name rfl ?_)))))))
    refine PW2.adds (by rw [S_len, S_len, hsl]; simp only [List.length_cons, List.length_nil]; omega) (EW.cstr ?_)
    rw [S_app]
    refine PW2.adds (by rw [S_len, S_len, hsl]; simp only [List.length_append, List.length_cons, List.length_nil]; omega) (EW.name rfl ?_)
    rw [S_app]
    refine PW2.adds (by rw [S_len, S_len, hsl]; simp only [List.length_append, List.length_cons, List.length_nil]; omega) (EW.cstr ?_)
    rw [S_app]
    refine PW2.adds (by rw [S_len, S_len, hsl]; simp only [List.length_append, List.length_cons, List.length_nil]; omega) ?_
    rw [S_app]
    refine ret_pure (fun k e => by cases e) ⟨[], by simp⟩ ⟨?_, rfl⟩
    unfold spell; rw [if_pos rfl]
  · rw [decide_eq_true hc]
    refine SW.cons (ST.ret (EW.meth PySem.F.plainAttrs_dict PySem.F.slot_dict_get PySem.F.type_dict_get (EW.name rfl ⟨⟨_, hk, rfl⟩, EWs.cons (EW.name rfl (EWs.cons (EW.name rfl (EWs.nil (CW.get hk (dict_strs _ c) ?_)))))⟩)))
    refine ret_pure (fun k e => by cases e) ⟨[], by simp⟩ ⟨?_, rfl⟩
    rw [getD_dict, tabF_get]
    unfold spell; rw [if_neg hc]

def wideL (w : Nat) (l : List Nat) : Nat := if bareL l then l.length else 2 + (l.map fun c => (spell w c).length).sum

theorem intsOf_nat (l : List Nat) : intsOf (l.map fun k : Nat => V.int (k : Int)) = some (l.map fun k : Nat => (k : Int)) := by
  induction l with
  | nil => rfl
  | cons a r ih =>
    simp only [List.map_cons]
    unfold intsOf
    rw [ih]; rfl
theorem sum_cast (l : List Nat) : (l.map fun k : Nat => (k : Int)).sum = ((l.sum : Nat) : Int) := by
  induction l with
  | nil => rfl
  | cons a r ih => simp only [List.map_cons, List.sum_cons, ih]; push_cast; rfl

set_option maxHeartbeats 1000000 in
theorem wide_call {B : Wd} {n : Nat} {H : List O} {l : List Nat} {w kt : Nat} {f : Addr} (T : Top B) (hf : B.mg "_law_wide" = some (.ref f)) (hk : H[kt]? = some (.dict (dictOf (tabD w)))) (hl : l.length ≤ 1000) :
    CW B (n + 2) (.ref f) [.str (S l), .ref kt] H fun v H' => v = .int (wideL w l) ∧ H' = H := by
  obtain ⟨f', hf', F⟩ := T.wide
  rw [hf] at hf'; cases hf'
  obtain ⟨fb, hfb, Fb⟩ := T.bare
  obtain ⟨fs, hfs, Fs⟩ := T.spel
  have hsl : sizeLine = 16777216 := rfl
  have glen : Glob B "len" (.builtin "len") := globB (T.bi _ (by simp)) (by decide) (by rfl)
  have gsum : Glob B "sum" (.builtin "sum") := globB (T.bi _ (by simp)) (by decide) (by rfl)
  refine CW.def T.ok T.there F rfl (fun q cd L _ => ?_) (by decide +kernel)
  refine SW.cons (ST.ite (TW.plain (EW.call T.ok (.top hfb) Fb.callee (EWs.cons (EW.name rfl (EWs.nil (CW.mono (bare_call T hfb (by omega)) fun v H' hv => ?_)))))))
  obtain ⟨rfl, rfl⟩ := hv
  refine TV.bool ?_
  cases hb : bareL l with
  | true =>
    refine SW.cons (ST.ret (EW.call T.ok glen (.builtin _) (EWs.cons (EW.name rfl (EWs.nil (CW.lens (by rw [S_len]; omega) ?_))))))
    refine ret_pure (fun k e => by cases e) ⟨[], by simp⟩ ⟨?_, rfl⟩
    unfold wideL; rw [hb, if_pos rfl, S_len]
  | false =>
    refine SW.nil ?_
    refine SW.cons (ST.ret (EW.binop (EW.cint (EW.call T.ok gsum (.builtin _) (EWs.cons (EW.comp T.there (EW.name rfl ?_)))))))
    refine ⟨signs (S l), fun _ => True, fun i acc H2 => H2 = H' ∧ acc = (l.take i).map fun c => V.int ((spell w c).length : Nat), IT.str, by rw [signs_len]; omega, ⟨rfl, rfl⟩, ?_, ?_, ?_⟩
    · rintro i acc H2 ⟨rfl, rfl⟩
      exact ⟨trivial, by rw [List.length_map, List.length_take]; omega⟩
    · rintro i v acc H2 C hv ⟨rfl, rfl⟩
      obtain ⟨c, hc, rfl⟩ := signs_S l i v hv
      refine AW.name T.there ⟨locC_upd rfl, ?_⟩
      refine EW.call T.ok glen (.builtin _) (EWs.cons (EW.call T.ok (.top hfs) Fs.callee (EWs.cons (EW.name rfl (EWs.cons (EW.name (v := .ref kt) rfl (EWs.nil (CW.mono (spel_call T hfs hk) fun v H' hv => ?_))))))))
      obtain ⟨rfl, rfl⟩ := hv
      refine EWs.nil (CW.lens (by rw [S_len]; have := spell_len w c; omega) ⟨rfl, ?_⟩)
      rw [List.take_add_one, hc, List.map_append, S_len]; rfl
    · rintro acc H2 ⟨rfl, rfl⟩
      rw [signs_len, List.take_length]
      refine EWs.nil (CW.sum (vs := l.map fun c => V.int ((spell w c).length : Nat)) (is := (l.map fun c => (spell w c).length).map fun k : Nat => (k : Int)) (by simp) ?_ ?_)
      · have := intsOf_nat (l.map fun c => (spell w c).length)
        simpa [Function.comp_def] using this
      · rw [sum_cast]
        refine PW2.add (ret_pure (fun k e => by cases e) ⟨_, rfl⟩ ⟨?_, rfl⟩)
        unfold wideL; rw [hb]; simp

theorem fdiv_nat (m k : Nat) : (m : Int).fdiv (k : Int) = ((m / k : Nat) : Int) := by
  rw [Int.fdiv_eq_ediv_of_nonneg _ (Int.natCast_nonneg k)]; rfl
theorem fmod_nat (m k : Nat) : (m : Int).fmod (k : Int) = ((m % k : Nat) : Int) := by
  rw [Int.fmod_eq_emod_of_nonneg _ (Int.natCast_nonneg k)]; rfl

theorem any_cast (l : List Nat) (k : Nat) : ((l.map fun x : Nat => (x : Int)).any fun x => x == (k : Int)) = l.any (· == k) := by
  induction l with
  | nil => rfl
  | cons a r ih => simp only [List.map_cons, List.any_cons, ih, beq_cast]

def known (m : Nat) : Bool := [1, 2, 4, 6, 8, 10, 12].any (· == m / 4096)

theorem know_call {B : Wd} {n : Nat} {H : List O} {m : Nat} {f : Addr} (T : Top B) (hf : B.mg "_law_known" = some (.ref f)) :
    CW B (n + 1) (.ref f) [.int m] H fun v H' => v = .bool (known m) ∧ H' = H := by
  obtain ⟨f', hf', F⟩ := T.know
  rw [hf] at hf'; cases hf'
  refine CW.def T.ok T.there F rfl (fun q cd L _ => ?_) (by decide +kernel)
  refine SW.cons (ST.ret (EW.compare (EW.binop (EW.name rfl (EW.cint (PW2.fdiv (by decide) (by decide) (EW.list ?_)))))))
  iterate 7 refine EWs.cons (EW.cint ?_)
  refine EWs.nil ⟨by decide, ?_⟩
  refine PW2.inl (is := [1, 2, 4, 6, 8, 10, 12]) (get_last H _) rfl (ret_pure (fun k e => by cases e) ⟨_, rfl⟩ ⟨?_, rfl⟩)
  have h := fdiv_nat m 4096
  rw [show ((4096 : Nat) : Int) = 4096 from rfl] at h
  rw [h]
  exact congrArg V.bool (any_cast [1, 2, 4, 6, 8, 10, 12] (m / 4096))
end Mine

end
section
open PySem PySem.W PySem.Calls PyProof.Rows
set_option maxRecDepth 100000
namespace Mine

abbrev File := Nat × List Nat

/-- the list of files, in the ledger -/
structure Files (H : List O) (kf : Nat) (ks : List Nat) (fs : List File) : Prop where
  l : H[kf]? = some (.list (ks.map V.ref))
  len : ks.length = fs.length
  nodup : ks.Nodup
  out : kf ∉ ks
  at_ : ∀ (i : Nat) f k, fs[i]? = some f → ks[i]? = some k → H[k]? = some (.list [.int (f.1 : Int), .str (S f.2)])

theorem Files.app {H : List O} {kf ks fs} (F : Files H kf ks fs) (G : List O) : Files (H ++ G) kf ks fs :=
  ⟨getElem?_app F.l, F.len, F.nodup, F.out, fun i f k h1 h2 => getElem?_app (F.at_ i f k h1 h2)⟩

def partN (w : Nat) (f : File) : Nat := (if known f.1 then 10 else 12) + 2 + wideL w f.2
def startN (w : Nat) (fs : List File) (i : Nat) : Nat := ((fs.take i).map (partN w)).sum

def small (fs : List File) : Prop := fs.length ≤ 20 ∧ ∀ f ∈ fs, f.2.length ≤ 1000

set_option maxHeartbeats 1000000 in
theorem star_call {B : Wd} {n : Nat} {H : List O} {w kt kf i : Nat} {ks fs} {f : Addr} (T : Top B) (hf : B.mg "_law_start" = some (.ref f)) (hk : H[kt]? = some (.dict (dictOf (tabD w)))) (FF : Files H kf ks fs) (hs : small fs) :
    CW B (n + 3) (.ref f) [.ref kf, .int i, .ref kt] H fun v H' => v = .int (startN w fs i) ∧ H' = H := by
  obtain ⟨f', hf', F⟩ := T.star
  rw [hf] at hf'; cases hf'
  obtain ⟨fw, hfw, Fw⟩ := T.wide
  obtain ⟨fk, hfk, Fk⟩ := T.know
  have hsl : sizeLine = 16777216 := rfl
  have gsum : Glob B "sum" (.builtin "sum") := globB (T.bi _ (by simp)) (by decide) (by rfl)
  have hkl := FF.len
  have hsm := hs.1
  refine CW.def T.ok T.there F rfl (fun q cd L _ => ?_) (by decide +kernel)
  refine SW.cons (ST.ret (EW.call T.ok gsum (.builtin _) (EWs.cons (EW.comp T.there (EW.sliceL (k := 0) (EW.name rfl (EW.name rfl ⟨kf, ks.map V.ref, i, rfl, FF.l, rfl, by omega, by rw [List.length_map]; omega, ?_⟩)))))))
  rw [Int.toNat_natCast]
  refine ⟨(ks.map V.ref).take i, _, fun j acc H' => H' = H ++ [.list ((ks.map V.ref).take i)] ∧ acc = ((fs.take i).take j).map fun f => V.int (partN w f : Nat), IT.list (get_last H _), ?_, ⟨rfl, rfl⟩, ?_, ?_, ?_⟩
  · rw [List.length_take, List.length_map]; omega
  · rintro j acc H' ⟨rfl, rfl⟩
    exact ⟨get_last H _, by rw [List.length_map, List.length_take]; omega⟩
  · rintro j v acc H' C hv ⟨rfl, rfl⟩
    have hj : j < i ∧ j < ks.length := by
      have := (List.getElem?_eq_some_iff.mp hv).1
      rw [List.length_take, List.length_map] at this; omega
    have hfj : fs[j]? = some (fs[j]'(by omega)) := List.getElem?_eq_getElem _
    have hkj : ks[j]? = some ks[j] := List.getElem?_eq_getElem _
    have hv' : v = .ref ks[j] := by
      rw [List.getElem?_take_of_lt hj.1, List.getElem?_map, hkj] at hv
      exact (Option.some.inj hv).symm
    subst hv'
    have hat := getElem?_app (m := [O.list ((ks.map V.ref).take i)]) (FF.at_ j _ _ hfj hkj)
    have hfm : fs[j]'(by omega) ∈ fs := List.getElem_mem _
    generalize hff : fs[j]'(by omega) = fj at *
    obtain ⟨m, nm⟩ := fj
    have hnm := hs.2 _ hfm
    refine AW.pair T.there hat ⟨?_, ?_⟩
    · intro x v e
      have h1 := locC_upd (w := .int m) (y := Str.ofString "mode") (S := { kind := ScopeKind.function, names := _, isGenerator := false, isCoroutine := false }) rfl x v e
      unfold upd at h1 ⊢
      by_cases hx : x = Str.ofString "name"
      · subst hx; cases e
      · rw [if_neg hx]; exact h1
    refine EW.binop (EW.binop (EW.ifexp (TW.plain (EW.call T.ok (.top hfk) Fk.callee (EWs.cons (EW.name rfl (EWs.nil (CW.mono (CW.lift (know_call (n := 0) T hfk) (by omega)) fun v H' hv => ?_))))))))
    obtain ⟨rfl, rfl⟩ := hv
    refine TV.bool ?_
    have htk : (fs.take i).take (j + 1) = (fs.take i).take j ++ [(m, nm)] := by
      rw [List.take_add_one, List.getElem?_take_of_lt hj.1, hfj]; rfl
    cases hkn : known m with
    | true =>
      refine EW.cint (EW.cint (PW2.add (EW.call T.ok (.top hfw) Fw.callee (EWs.cons (EW.name rfl (EWs.cons (EW.name (v := .ref kt) rfl (EWs.nil (CW.mono (wide_call T hfw (getElem?_app hk) hnm) fun v H' hv => ?_)))))))))
      obtain ⟨rfl, rfl⟩ := hv
      refine PW2.add ⟨rfl, ?_⟩
      rw [htk, List.map_append]
      unfold partN
      simp only [List.map_cons, List.map_nil, hkn, if_true]
      push_cast; rfl
    | false =>
      refine EW.cint (EW.cint (PW2.add (EW.call T.ok (.top hfw) Fw.callee (EWs.cons (EW.name rfl (EWs.cons (EW.name (v := .ref kt) rfl (EWs.nil (CW.mono (wide_call T hfw (getElem?_app hk) hnm) fun v H' hv => ?_)))))))))
      obtain ⟨rfl, rfl⟩ := hv
      refine PW2.add ⟨rfl, ?_⟩
      rw [htk, List.map_append]
      unfold partN
      simp only [List.map_cons, List.map_nil, hkn, if_false, Bool.false_eq_true]
      push_cast; rfl
  · rintro acc H' ⟨rfl, rfl⟩
    have e1 : (fs.take i).take ((ks.map V.ref).take i).length = fs.take i := by
      rw [List.take_of_length_le]
      rw [List.length_take, List.length_take, List.length_map]; omega
    rw [e1]
    refine EWs.nil (CW.sum (vs := (fs.take i).map fun f => V.int (partN w f : Nat)) (is := ((fs.take i).map (partN w)).map fun k : Nat => (k : Int)) (by simp) ?_ ?_)
    · have := intsOf_nat ((fs.take i).map (partN w))
      simpa [Function.comp_def] using this
    · rw [sum_cast]
      exact ret_pure (fun k e => by cases e) ⟨_, List.append_assoc _ _ _⟩ ⟨rfl, rfl⟩

def frontN (w : Nat) (fs : List File) (i : Nat) (f : File) : Nat := startN w fs i + if known f.1 then 11 else 13

/-- files[i][j] -/
theorem EW.cell0 {B : Wd} {n : Nat} {env : Env} {loc : Loc} {H : List O} {Q : V → List O → Prop} {kf i : Nat} {ks fs} {x y : Str} {p1 p2 p3 p4 p5 : Pos} {k : Nat} {f : File} (hx : loc x = some (.ref kf)) (hy : loc y = some (.int i)) (FF : Files H kf ks fs) (hs : small fs) (hi : fs[i]? = some f)
    (q : Q (.int (f.1 : Int)) H) (hd1 : (x == ("__debug__" : Str)) = false := by decide) (hc1 : (x == ("__classdict__" : Str)) = false := by decide) (hd2 : (y == ("__debug__" : Str)) = false := by decide) (hc2 : (y == ("__classdict__" : Str)) = false := by decide) :
    EW B n env loc (.Subscript (.Subscript (.Name x p1) (.Name y p2) p3) (.Constant (.int 0) k p4) p5) H Q := by
  have hil := (List.getElem?_eq_some_iff.mp hi).1
  have hkl := FF.len
  have hs1 := hs.1
  have hki : ks[i]? = some (ks[i]'(by omega)) := List.getElem?_eq_getElem _
  refine EW.item (EW.item (EW.name hx (EW.name hy (PW2.item FF.l (by omega) (by omega) (v := .ref (ks[i]'(by omega))) ?_ (EW.cint (PW2.item (FF.at_ i f _ hi hki) (by decide) (by decide) rfl q))) hd2 hc2) hd1 hc1))
  rw [Int.toNat_natCast, List.getElem?_map, hki]; rfl
theorem EW.cell1 {B : Wd} {n : Nat} {env : Env} {loc : Loc} {H : List O} {Q : V → List O → Prop} {kf i : Nat} {ks fs} {x y : Str} {p1 p2 p3 p4 p5 : Pos} {k : Nat} {f : File} (hx : loc x = some (.ref kf)) (hy : loc y = some (.int i)) (FF : Files H kf ks fs) (hs : small fs) (hi : fs[i]? = some f)
    (q : Q (.str (S f.2)) H) (hd1 : (x == ("__debug__" : Str)) = false := by decide) (hc1 : (x == ("__classdict__" : Str)) = false := by decide) (hd2 : (y == ("__debug__" : Str)) = false := by decide) (hc2 : (y == ("__classdict__" : Str)) = false := by decide) :
    EW B n env loc (.Subscript (.Subscript (.Name x p1) (.Name y p2) p3) (.Constant (.int 1) k p4) p5) H Q := by
  have hil := (List.getElem?_eq_some_iff.mp hi).1
  have hkl := FF.len
  have hs1 := hs.1
  have hki : ks[i]? = some (ks[i]'(by omega)) := List.getElem?_eq_getElem _
  refine EW.item (EW.item (EW.name hx (EW.name hy (PW2.item FF.l (by omega) (by omega) (v := .ref (ks[i]'(by omega))) ?_ (EW.cint (PW2.item (FF.at_ i f _ hi hki) (by decide) (by decide) rfl q))) hd2 hc2) hd1 hc1))
  rw [Int.toNat_natCast, List.getElem?_map, hki]; rfl

set_option maxHeartbeats 1000000 in
theorem fron_call {B : Wd} {n : Nat} {H : List O} {w kt kf i : Nat} {ks fs} {f : Addr} {fi : File} (T : Top B) (hf : B.mg "_law_front" = some (.ref f)) (hk : H[kt]? = some (.dict (dictOf (tabD w)))) (FF : Files H kf ks fs) (hs : small fs) (hi : fs[i]? = some fi) :
    CW B (n + 4) (.ref f) [.ref kf, .int i, .ref kt] H fun v H' => v = .int (frontN w fs i fi) ∧ H' = H := by
  obtain ⟨f', hf', F⟩ := T.fron
  rw [hf] at hf'; cases hf'
  obtain ⟨fs', hfs, Fs⟩ := T.star
  obtain ⟨fk, hfk, Fk⟩ := T.know
  refine CW.def T.ok T.there F rfl (fun q cd L _ => ?_) (by decide +kernel)
  refine SW.cons (ST.ret (EW.binop (EW.call T.ok (.top hfs) Fs.callee ?_)))
  iterate 3 refine EWs.cons (EW.name rfl ?_)
  refine EWs.nil (CW.mono (star_call T hfs hk FF hs) fun v H' hv => ?_)
  obtain ⟨rfl, rfl⟩ := hv
  refine EW.ifexp (TW.plain (EW.call T.ok (.top hfk) Fk.callee (EWs.cons (EW.cell0 rfl rfl FF hs hi (EWs.nil (CW.mono (CW.lift (know_call (n := 0) T hfk) (by omega)) fun v H2 hv => ?_))))))
  obtain ⟨rfl, rfl⟩ := hv
  refine TV.bool ?_
  cases hkn : known fi.1 with
  | true =>
    refine EW.cint (PW2.add (ret_pure (fun k e => by cases e) ⟨[], by simp⟩ ⟨?_, rfl⟩))
    unfold frontN; rw [hkn]; push_cast; rfl
  | false =>
    refine EW.cint (PW2.add (ret_pure (fun k e => by cases e) ⟨[], by simp⟩ ⟨?_, rfl⟩))
    unfold frontN; rw [hkn]; push_cast; rfl
end Mine

end
section
open PySem PySem.W PySem.Calls PyProof.Rows
set_option maxRecDepth 100000
namespace Mine

section
variable {B : Wd} {n : Nat} {H : List O} {Q : V → List O → Prop}
theorem PW2.divN {x y : Int} (a b : Nat) (hb : 0 < b) (hs : b < 1073741824) (q : Q (.int ((a / b : Nat) : Int)) H) (hx : x = (a : Int) := by rfl) (hy : y = (b : Int) := by rfl) : PW2 B n (binaryOp .FloorDiv) (.int x) (.int y) H Q := by
  subst hx hy
  refine PW2.fdiv (by omega) (by omega) ?_
  rw [fdiv_nat]; exact q
theorem PW2.modN {x y : Int} (a b : Nat) (hb : 0 < b) (q : Q (.int ((a % b : Nat) : Int)) H) (hx : x = (a : Int) := by rfl) (hy : y = (b : Int) := by rfl) : PW2 B n (binaryOp .Mod) (.int x) (.int y) H Q := by
  subst hx hy
  refine PW2.fmod (by omega) ?_
  rw [fmod_nat]; exact q
theorem PW2.addN {x y : Int} (a b : Nat) (q : Q (.int ((a + b : Nat) : Int)) H) (hx : x = (a : Int) := by rfl) (hy : y = (b : Int) := by rfl) : PW2 B n (binaryOp .Add) (.int x) (.int y) H Q := by
  subst hx hy
  refine PW2.add ?_
  have : (a : Int) + (b : Int) = ((a + b : Nat) : Int) := by push_cast; rfl
  rw [this]; exact q
theorem PW2.subN {x y : Int} (a b : Nat) (hab : b ≤ a) (q : Q (.int ((a - b : Nat) : Int)) H) (hx : x = (a : Int) := by rfl) (hy : y = (b : Int) := by rfl) : PW2 B n (binaryOp .Sub) (.int x) (.int y) H Q := by
  subst hx hy
  refine PW2.sub ?_
  have : (a : Int) - (b : Int) = ((a - b : Nat) : Int) := by omega
  rw [this]; exact q
theorem PW2.mulN {x y : Int} (a b : Nat) (hm : IntMulOk (a : Int) (b : Int)) (q : Q (.int ((a * b : Nat) : Int)) H) (hx : x = (a : Int) := by rfl) (hy : y = (b : Int) := by rfl) : PW2 B n (binaryOp .Mult) (.int x) (.int y) H Q := by
  subst hx hy
  refine PW2.mul hm ?_
  have : (a : Int) * (b : Int) = ((a * b : Nat) : Int) := by push_cast; rfl
  rw [this]; exact q
theorem PW2.powN {x y : Int} (a b : Nat) (hs : (Builtin.Int.intBits (a : Int) : Int) * b ≤ 2 ^ 27) (q : Q (.int ((a ^ b : Nat) : Int)) H) (hx : x = (a : Int) := by rfl) (hy : y = (b : Int) := by rfl) : PW2 B n (binaryOp .Pow) (.int x) (.int y) H Q := by
  subst hx hy
  refine PW2.pow (by omega) hs ?_
  rw [Int.toNat_natCast]
  have : (a : Int) ^ b = ((a ^ b : Nat) : Int) := by push_cast; rfl
  rw [this]; exact q
theorem PW2.eqN {x y : Int} (a b : Nat) (q : Q (.bool (a == b)) H) (hx : x = (a : Int) := by rfl) (hy : y = (b : Int) := by rfl) : PW2 B n (compareOp .Eq) (.int x) (.int y) H Q := by
  subst hx hy
  refine PW2.eqi ?_
  rw [beq_cast]; exact q
theorem PW2.ltN {x y : Int} (a b : Nat) (q : Q (.bool (decide (a < b))) H) (hx : x = (a : Int) := by rfl) (hy : y = (b : Int) := by rfl) : PW2 B n (compareOp .Lt) (.int x) (.int y) H Q := by
  subst hx hy
  refine PW2.lti ?_
  have : decide ((a : Int) < (b : Int)) = decide (a < b) := by simp
  rw [this]; exact q
theorem PW2.gtN {x y : Int} (a b : Nat) (q : Q (.bool (decide (b < a))) H) (hx : x = (a : Int) := by rfl) (hy : y = (b : Int) := by rfl) : PW2 B n (compareOp .Gt) (.int x) (.int y) H Q := by
  subst hx hy
  refine PW2.gti ?_
  have : decide ((b : Int) < (a : Int)) = decide (b < a) := by simp
  rw [this]; exact q
/-- a sign of a text -/
theorem PW2.itemN {value slice : Expr} {x : Str} {y : Int} (l : List Nat) (i : Nat) (c : Nat) (hl : l.length ≤ 1000000) (hc : l[i]? = some c) (q : Q (.str (S [c])) H) (hx : x = S l := by rfl) (hy : y = (i : Int) := by rfl)
    (hs : ∀ (x : Str) (i : Int) t u, subscripted slice false (.str x t) (.int i u) = operate [.str x t, .int i u] (getItem (.str x t) (.int i u)) := by intro _ _ _ _; with_unfolding_all rfl) :
    PW2 B n (subscriptTail value slice) (.str x) (.int y) H Q := by
  subst hx hy
  have hlt := (List.getElem?_eq_some_iff.mp hc).1
  refine PW2.itemS (c := c) (by omega) (by omega) ?_ q (hs _ _)
  rw [Int.toNat_natCast]
  show (l.toArray)[i]? = _
  simpa using hc
end

def thirdOf (p : Nat) : Nat := (p - 1) / 3
def digitOf (m p : Nat) : Nat := m / 8 ^ (2 - thirdOf p) % 8
def aboveOf (m p : Nat) : Nat := m / 512 / 2 ^ (2 - thirdOf p) % 2
def lastRow (t : Nat) : List Nat := if t < 2 then [45, 120, 83, 115] else [45, 120, 84, 116]
def rightC (m p : Nat) : Nat :=
  if p % 3 = 1 then [45, 114].getD (digitOf m p / 4) 0 else if p % 3 = 2 then [45, 119].getD (digitOf m p / 2 % 2) 0 else (lastRow (thirdOf p)).getD (digitOf m p % 2 + 2 * aboveOf m p) 0

theorem getD_some {l : List Nat} {i : Nat} (h : i < l.length) : l[i]? = some (l.getD i 0) := by
  rw [List.getD_eq_getElem?_getD, List.getElem?_eq_getElem h]; rfl

set_option maxHeartbeats 2000000 in
theorem righ_call {B : Wd} {n : Nat} {H : List O} {m p : Nat} {f : Addr} (T : Top B) (hf : B.mg "_law_right" = some (.ref f)) (hp : 1 ≤ p ∧ p ≤ 9) :
    CW B (n + 1) (.ref f) [.int m, .int p] H fun v H' => v = .str (S [rightC m p]) ∧ H' = H := by
  obtain ⟨f', hf', F⟩ := T.righ
  rw [hf] at hf'; cases hf'
  have ht : thirdOf p ≤ 2 := by unfold thirdOf; omega
  have h8 : 0 < 8 ^ (2 - thirdOf p) := Nat.pow_pos (by decide)
  have h8' : 8 ^ (2 - thirdOf p) ≤ 64 := Nat.pow_le_pow_right (by decide) (show 2 - thirdOf p ≤ 2 by omega)
  have h2 : 0 < 2 ^ (2 - thirdOf p) := Nat.pow_pos (by decide)
  have h2' : 2 ^ (2 - thirdOf p) ≤ 4 := Nat.pow_le_pow_right (by decide) (show 2 - thirdOf p ≤ 2 by omega)
  have hd : digitOf m p < 8 := Nat.mod_lt _ (by decide)
  have ha : aboveOf m p < 2 := Nat.mod_lt _ (by decide)
  refine CW.def T.ok T.there F rfl (fun q cd L _ => ?_) (by decide +kernel)
  refine SW.cons (ST.assign T.there (EW.binop (EW.binop (EW.name rfl (EW.cint (PW2.subN p 1 hp.1 (EW.cint (PW2.divN (p - 1) 3 (by decide) (by decide) ?_))))))))
  refine SW.cons <| ST.assign T.there <| EW.binop <| EW.binop <| EW.name rfl <| EW.binop <| EW.cint <| EW.binop <| EW.cint <| EW.name rfl <| PW2.subN 2 (thirdOf p) ht <| PW2.powN 8 (2 - thirdOf p) ?_ <| PW2.divN m (8 ^ (2 - thirdOf p)) h8 (by omega) <| EW.cint <| PW2.modN (m / 8 ^ (2 - thirdOf p)) 8 (by decide) ?_
  · have : (Builtin.Int.intBits ((8 : Nat) : Int) : Int) = 4 := by decide
    rw [this]; omega
  refine SW.cons (ST.ite (TW.compare (EW.binop (EW.name rfl (EW.cint (PW2.modN p 3 (by decide) (EW.cint (PW2.eqN (p % 3) 1 (TV.bool ?_)))))))))
  by_cases h1 : p % 3 = 1
  · rw [show (p % 3 == 1) = true from beq_iff_eq.mpr h1]
    refine SW.cons (ST.ret (EW.item (EW.cstr (EW.binop (EW.name rfl (EW.cint (PW2.divN (digitOf m p) 4 (by decide) (by decide) (PW2.itemN [45, 114] (digitOf m p / 4) ([45, 114].getD (digitOf m p / 4) 0) (by decide) (getD_some (by simp; omega)) ?_))))))))
    refine ret_pure (fun k e => by cases e) ⟨[], by simp⟩ ⟨?_, rfl⟩
    unfold rightC; rw [if_pos h1]
  · rw [show (p % 3 == 1) = false from beq_eq_false_iff_ne.mpr h1]
    refine SW.nil (SW.cons (ST.ite (TW.compare (EW.binop (EW.name rfl (EW.cint (PW2.modN p 3 (by decide) (EW.cint (PW2.eqN (p % 3) 2 (TV.bool ?_))))))))))
    by_cases h2' : p % 3 = 2
    · rw [show (p % 3 == 2) = true from beq_iff_eq.mpr h2']
      refine SW.cons (ST.ret (EW.item (EW.cstr (EW.binop (EW.binop (EW.name rfl (EW.cint (PW2.divN (digitOf m p) 2 (by decide) (by decide) (EW.cint (PW2.modN (digitOf m p / 2) 2 (by decide) (PW2.itemN [45, 119] (digitOf m p / 2 % 2) ([45, 119].getD (digitOf m p / 2 % 2) 0) (by decide) (getD_some (by simp; omega)) ?_)))))))))))
      refine ret_pure (fun k e => by cases e) ⟨[], by simp⟩ ⟨?_, rfl⟩
      unfold rightC; rw [if_neg h1, if_pos h2']
    · rw [show (p % 3 == 2) = false from beq_eq_false_iff_ne.mpr h2']
      refine SW.nil ?_
      refine SW.cons <| ST.assign T.there <| EW.binop <| EW.binop <| EW.binop <| EW.name rfl <| EW.cint <| PW2.divN m 512 (by decide) (by decide) <| EW.binop <| EW.cint <| EW.binop <| EW.cint <| EW.name rfl <| PW2.subN 2 (thirdOf p) ht <| PW2.powN 2 (2 - thirdOf p) ?_ <| PW2.divN (m / 512) (2 ^ (2 - thirdOf p)) h2 (by omega) <| EW.cint <| PW2.modN (m / 512 / 2 ^ (2 - thirdOf p)) 2 (by decide) ?_
      · have : (Builtin.Int.intBits ((2 : Nat) : Int) : Int) = 2 := by decide
        rw [this]; omega
      refine SW.cons (ST.ret (EW.item (EW.item (EW.list ?_))))
      iterate 3 refine EWs.cons (EW.cstr ?_)
      refine EWs.nil ⟨by decide, ?_⟩
      refine EW.name rfl (PW2.item (v := .str (S (lastRow (thirdOf p)))) (get_last H _) (by show (0 : Int) ≤ ((thirdOf p : Nat) : Int); omega) (by show ((thirdOf p : Nat) : Int) < 2 ^ 63; omega) ?_ ?_)
      · show ([.str _, .str _, .str _] : List V)[(((thirdOf p : Nat) : Int)).toNat]? = _
        rw [Int.toNat_natCast]
        match thirdOf p, ht with
        | 0, _ => rfl
        | 1, _ => rfl
        | 2, _ => rfl
        | k + 3, h => omega
      · refine EW.binop <| EW.binop <| EW.name rfl <| EW.cint <| PW2.modN (digitOf m p) 2 (by decide) <| EW.binop <| EW.cint <| EW.name rfl <| PW2.mulN 2 (aboveOf m p) ?_ <| PW2.addN (digitOf m p % 2) (2 * aboveOf m p) <| PW2.itemN (lastRow (thirdOf p)) (digitOf m p % 2 + 2 * aboveOf m p) ((lastRow (thirdOf p)).getD (digitOf m p % 2 + 2 * aboveOf m p) 0) (by unfold lastRow; split <;> decide) (getD_some ?_) ?_
        · exact IntMulOk.of_left (by decide)
        · have : (lastRow (thirdOf p)).length = 4 := by unfold lastRow; split <;> rfl
          omega
        · refine ret_pure (fun k e => by cases e) ⟨_, rfl⟩ ⟨?_, rfl⟩
          unfold rightC; rw [if_neg h1, if_neg h2']
end Mine

end
section
open PySem PySem.W PySem.Calls PyProof.Rows
set_option maxRecDepth 100000
namespace Mine
theorem lgt {l : List Nat} {k b : Nat} (h : l.length ≤ b) : (l.take k).length ≤ b := Nat.le_trans (by rw [List.length_take]; exact Nat.min_le_right _ _) h
theorem lgd {l : List Nat} {k b : Nat} (h : l.length ≤ b) : (l.drop k).length ≤ b := Nat.le_trans (by rw [List.length_drop]; exact Nat.sub_le _ _) h
theorem lga {l m : List Nat} {a b : Nat} (h : l.length ≤ a) (h' : m.length ≤ b) : (l ++ m).length ≤ a + b := by rw [List.length_append]; exact Nat.add_le_add h h'
theorem lg1 {a : Nat} : [a].length ≤ 1 := Nat.le_refl _
theorem lg2 {a b : Nat} : [a, b].length ≤ 2 := Nat.le_refl _
theorem lg3 {a b c : Nat} : [a, b, c].length ≤ 3 := Nat.le_refl _
theorem lg4 {a b c d : Nat} : [a, b, c, d].length ≤ 4 := Nat.le_refl _
theorem sz2 {l m : List Nat} {a b : Nat} (h : l.length ≤ a) (h' : m.length ≤ b) (h2 : a + b ≤ 1000000) : l.length + m.length ≤ 1000000 := Nat.le_trans (Nat.add_le_add h h') h2

section
variable {B : Wd} {n : Nat} {env : Env} {loc : Loc} {H : List O} {Q : V → List O → Prop}

theorem EW.toN {x : Str} {e : Expr} {p1 p2 p3 : Pos} (l : List Nat) (hx : loc x = some (.str (S l))) (hl : l.length ≤ 1000000) (h : EW B n env loc e H fun u H2 => ∃ b : Nat, u = .int b ∧ Q (.str (S (l.take b))) H2)
    (hd : (x == ("__debug__" : Str)) = false := by decide) (hc : (x == ("__classdict__" : Str)) = false := by decide) : EW B n env loc (.Subscript (.Name x p1) (.Slice none (some e) none p2) p3) H Q := by
  have hsl : sizeLine = 16777216 := rfl
  refine EW.sliceS (x := S []) (lo := none) (hi := none) (EW.name hx (EP.none (EP.some (EW.mono h fun v H' hv => ?_))) hd hc)
  obtain ⟨b, rfl, q⟩ := hv
  exact ⟨b, rfl, S l, rfl, by rw [S_len]; omega, by rw [slice_Sto]; exact q⟩
theorem EW.fromN {x : Str} {e : Expr} {p1 p2 p3 : Pos} (l : List Nat) (hx : loc x = some (.str (S l))) (hl : l.length ≤ 1000000) (h : EW B n env loc e H fun u H2 => ∃ b : Nat, u = .int b ∧ Q (.str (S (l.drop b))) H2)
    (hd : (x == ("__debug__" : Str)) = false := by decide) (hc : (x == ("__classdict__" : Str)) = false := by decide) : EW B n env loc (.Subscript (.Name x p1) (.Slice (some e) none none p2) p3) H Q := by
  have hsl : sizeLine = 16777216 := rfl
  refine EW.sliceS (x := S []) (lo := none) (hi := none) (EW.name hx (EP.some (EW.mono h fun v H' hv => ?_)) hd hc)
  obtain ⟨b, rfl, q⟩ := hv
  exact ⟨b, rfl, EP.none ⟨S l, rfl, by rw [S_len]; omega, by rw [slice_Sfrom]; exact q⟩⟩
theorem EW.midN {x : Str} {e1 e2 : Expr} {p1 p2 p3 : Pos} (l : List Nat) (hx : loc x = some (.str (S l))) (hl : l.length ≤ 1000000) (h : EW B n env loc e1 H fun u H2 => ∃ a : Nat, u = .int a ∧ EW B n env loc e2 H2 fun u H3 => ∃ b : Nat, u = .int b ∧ Q (.str (S ((l.take b).drop a))) H3)
    (hd : (x == ("__debug__" : Str)) = false := by decide) (hc : (x == ("__classdict__" : Str)) = false := by decide) : EW B n env loc (.Subscript (.Name x p1) (.Slice (some e1) (some e2) none p2) p3) H Q := by
  have hsl : sizeLine = 16777216 := rfl
  refine EW.sliceS (x := S []) (lo := none) (hi := none) (EW.name hx (EP.some (EW.mono h fun v H' hv => ?_)) hd hc)
  obtain ⟨a, rfl, h⟩ := hv
  refine ⟨a, rfl, EP.some (EW.mono h fun v H' hv => ?_)⟩
  obtain ⟨b, rfl, q⟩ := hv
  exact ⟨b, rfl, S l, rfl, by rw [S_len]; omega, by rw [slice_S2]; exact q⟩

/-- the numbers that stand in a display -/
def intOf (e : Expr) : Option Int := match e with
  | .Constant (.int i) _ _ => some i
  | _ => none
theorem intOf_is {e : Expr} {i : Int} (h : intOf e = some i) : ∃ k p, e = .Constant (.int i) k p := by
  cases e with
  | Constant c k p =>
    cases c with
    | int j => cases h; exact ⟨k, p, rfl⟩
    | _ => cases h
  | _ => cases h
def constInts : List Expr → Option (List Int)
  | [] => some []
  | e :: r => (intOf e).bind fun i => (constInts r).map (i :: ·)
theorem EWs.ints {elts : List Expr} : ∀ {is : List Int} {Q : List V → List O → Prop}, constInts elts = some is → Q (is.map V.int) H → EWs B n env loc elts H Q := by
  induction elts with
  | nil =>
    intro is Q h q
    obtain rfl := Option.some.inj h
    exact EWs.nil q
  | cons e r ih =>
    intro is Q h q
    have h : (intOf e).bind (fun i => (constInts r).map (i :: ·)) = some is := h
    obtain ⟨i, h1, h2⟩ := Option.bind_eq_some_iff.mp h
    obtain ⟨js, h3, rfl⟩ := Option.map_eq_some_iff.mp h2
    obtain ⟨k, p, rfl⟩ := intOf_is h1
    exact EWs.cons (EW.cint (ih h3 q))
theorem EW.ints {elts : List Expr} {is : List Int} {pos : Pos} (h : constInts elts = some is) (hl : is.length ≤ 1000) (q : Q (.ref H.length) (H ++ [.list (is.map V.int)])) : EW B n env loc (.List elts pos) H Q := by
  have : sizeLine = 16777216 := rfl
  exact EW.list (EWs.ints h ⟨by rw [List.length_map]; omega, q⟩)

theorem PW2.app {l m : List Nat} (q : Q (.str (S (l ++ m))) H) (hsz : l.length + m.length ≤ 1000000) : PW2 B n (binaryOp .Add) (.str (S l)) (.str (S m)) H Q := PW2.addS l m hsz q

theorem ret_set {H H' : List O} {Q : V → List O → Prop} {v : V} {k : Nat} {o : O} (hv : ∀ k, v ≠ .ref k) (ho : ∀ n, o.Closed n) (hH : ∃ G, H' = H.set k o ++ G) (q : Q v (H.set k o)) :
    ∃ u H2 G, (match Fl.ret v with | .ret u => u | _ => .none) = u ∧ H' = H2 ++ G ∧ H.length ≤ H2.length ∧ ((∀ o ∈ H, o.Closed H.length) → ∀ o ∈ H2, o.Closed H2.length) ∧ u.Closed H2.length ∧ Q u H2 := by
  obtain ⟨G, hG⟩ := hH
  refine ⟨v, H.set k o, G, rfl, hG, by simp, fun h x hx => ?_, fun k e => absurd e (hv k), q⟩
  rw [List.length_set]
  rcases List.mem_or_eq_of_mem_set hx with hx | rfl
  · exact h x hx
  · exact ho _
end

def pairO (m : Nat) (l : List Nat) : O := .list [.int (m : Int), .str (S l)]
theorem pairO_closed (m : Nat) (l : List Nat) : ∀ n, (pairO m l).Closed n := fun n k hk => by
  rcases List.mem_cons.mp hk with e | hk
  · cases e
  · rcases List.mem_cons.mp hk with e | hk
    · cases e
    · cases hk

def places : List Nat := [9, 8, 7, 6, 5, 4, 3, 2, 1, 9, 6, 3]
def types : List Nat := (Str.ofString "?pc?d?b?-?l?s???").cps.toList
def newM (m b : Nat) : Nat := if m / 2 ^ b % 2 = 1 then m - 2 ^ b else m + 2 ^ b
def skipN (m : Nat) : Nat := if known m then 0 else 1
def turnL (w : Nat) (fs : List File) (page : List Nat) (i b : Nat) (fi : File) : List Nat :=
  if b < 12 then page.take (startN w fs i + skipN fi.1 + places.getD b 0) ++ [rightC (newM fi.1 b) (places.getD b 0)] ++ page.drop (startN w fs i + skipN fi.1 + places.getD b 0 + 1)
  else if known (newM fi.1 b) then page.take (startN w fs i) ++ [types.getD (newM fi.1 b / 4096) 0] ++ (page.take (startN w fs i + skipN fi.1 + 10)).drop (startN w fs i + skipN fi.1 + 1) ++ page.drop (startN w fs i + 10 + 2 * skipN fi.1)
  else page.take (startN w fs i) ++ [39, 63] ++ (page.take (startN w fs i + skipN fi.1 + 10)).drop (startN w fs i + skipN fi.1 + 1) ++ [39] ++ page.drop (startN w fs i + 10 + 2 * skipN fi.1)

theorem bit_le {m b : Nat} (h : m / 2 ^ b % 2 = 1) : 2 ^ b ≤ m := by
  rcases Nat.lt_or_ge m (2 ^ b) with h1 | h1
  · rw [Nat.div_eq_of_lt h1] at h; cases h
  · exact h1

set_option maxHeartbeats 1000000 in
theorem turn_call {B : Wd} {n : Nat} {H : List O} {w kt kf i b : Nat} {ks fs} {f : Addr} {fi : File} {page : List Nat} {ki : Nat} (T : Top B) (hf : B.mg "_law_turn" = some (.ref f)) (hk : H[kt]? = some (.dict (dictOf (tabD w)))) (FF : Files H kf ks fs) (hs : small fs) (hi : fs[i]? = some fi) (hki : ks[i]? = some ki)
    (hp : page.length ≤ 100000) (hb : b < 16) (hm : fi.1 < 65536) (hn : newM fi.1 b < 65536) :
    CW B (n + 4) (.ref f) [.str (S page), .ref kf, .int i, .int b, .ref kt] H fun v H' => v = .str (S (turnL w fs page i b fi)) ∧ H' = H.set ki (pairO (newM fi.1 b) fi.2) := by
  obtain ⟨f', hf', F⟩ := T.turn
  rw [hf] at hf'; cases hf'
  obtain ⟨fs', hfs, Fs⟩ := T.star
  obtain ⟨fk, hfk, Fk⟩ := T.know
  obtain ⟨fr, hfr, Fr⟩ := T.righ
  have hil := (List.getElem?_eq_some_iff.mp hi).1
  have hkl := FF.len
  have hs1 := hs.1
  have hpow : 0 < 2 ^ b := Nat.pow_pos (by decide)
  have hpow' : 2 ^ b ≤ 2 ^ 15 := Nat.pow_le_pow_right (by decide) (by omega)
  have h15 : (2 : Nat) ^ 15 = 32768 := rfl
  have hbits : (Builtin.Int.intBits ((2 : Nat) : Int) : Int) * b ≤ 2 ^ 27 := by
    have : (Builtin.Int.intBits ((2 : Nat) : Int) : Int) = 2 := by decide
    rw [this]; omega
  refine CW.def T.ok T.there F rfl (fun q cd L _ => ?_) (by decide +kernel)
  refine SW.cons <| ST.assign T.there <| EW.cell0 rfl rfl FF hs hi ?_
  -- new
  refine SW.cons <| ST.assign T.there <| EW.ifexp <| TW.compare <| EW.binop <| EW.binop <| EW.name rfl <| EW.binop <| EW.cint <| EW.name rfl <| PW2.powN 2 b hbits <| PW2.divN fi.1 (2 ^ b) hpow (by omega) <| EW.cint <| PW2.modN (fi.1 / 2 ^ b) 2 (by decide) <| EW.cint <| PW2.eqN (fi.1 / 2 ^ b % 2) 1 <| TV.bool ?_
  have rest : FW B (n + 3) (fenv turnS q f cd L) (execs (turnB.drop 2) (fenv turnS q f cd L)) (upd (upd (locOf ["page", "files", "i", "bit", "table"] [.str (S page), .ref kf, .int i, .int b, .ref kt]) "mode" (.int (fi.1 : Int))) "new" (.int (newM fi.1 b : Nat))) H
      fun fl _ H' => ∃ v H2 G, (match (generalizing := false) fl with | .ret u => u | _ => .none) = v ∧ H' = H2 ++ G ∧ H.length ≤ H2.length ∧ ((∀ o ∈ H, o.Closed H.length) → ∀ o ∈ H2, o.Closed H2.length) ∧ v.Closed H2.length ∧ (v = .str (S (turnL w fs page i b fi)) ∧ H2 = H.set ki (pairO (newM fi.1 b) fi.2)) := by
    refine SW.cons <| ST.assign T.there <| EW.call T.ok (.top hfs) Fs.callee ?_
    iterate 3 refine EWs.cons (EW.name rfl ?_)
    refine EWs.nil (CW.mono (star_call T hfs hk FF hs) fun v H' hv => ?_)
    obtain ⟨rfl, e⟩ := hv; obtain rfl := e.symm
    refine SW.cons <| ST.assign T.there <| EW.ifexp <| TW.plain <| EW.call T.ok (.top hfk) Fk.callee <| EWs.cons <| EW.name rfl <| EWs.nil <| CW.mono (CW.lift (know_call (n := 0) T hfk) (by omega)) fun v H2 hv => ?_
    obtain ⟨rfl, e⟩ := hv; obtain rfl := e.symm
    refine TV.bool ?_
    have rest2 : FW B (n + 3) (fenv turnS q f cd L) (execs (turnB.drop 4) (fenv turnS q f cd L)) (upd (upd (upd (upd (locOf ["page", "files", "i", "bit", "table"] [.str (S page), .ref kf, .int i, .int b, .ref kt]) "mode" (.int (fi.1 : Int))) "new" (.int (newM fi.1 b : Nat))) "start" (.int (startN w fs i : Nat))) "skip" (.int (skipN fi.1 : Nat))) H
        fun fl _ H2 => ∃ v H3 G, (match (generalizing := false) fl with | .ret u => u | _ => .none) = v ∧ H2 = H3 ++ G ∧ H.length ≤ H3.length ∧ ((∀ o ∈ H, o.Closed H.length) → ∀ o ∈ H3, o.Closed H3.length) ∧ v.Closed H3.length ∧ (v = .str (S (turnL w fs page i b fi)) ∧ H3 = H.set ki (pairO (newM fi.1 b) fi.2)) := by
      have hsk : skipN fi.1 ≤ 1 := by unfold skipN; split <;> omega
      refine SW.cons <| ST.setItem T.there <| EW.name rfl <| EW.item <| EW.name rfl <| EW.name rfl <| PW2.item FF.l (by omega) (by omega) (v := .ref ki) ?_ <| EW.cint ⟨ki, _, 0, rfl, rfl, FF.at_ i fi ki hi hki, by decide, by simp, by simp; exact (by decide : 2 ≤ sizeLine), ?_⟩
      · rw [Int.toNat_natCast, List.getElem?_map, hki]; rfl
      show FW B (n + 3) _ _ _ (H.set ki (pairO (newM fi.1 b) fi.2)) _
      refine SW.cons <| ST.ite <| TW.compare <| EW.name rfl <| EW.cint <| PW2.ltN b 12 <| TV.bool ?_
      by_cases h12 : b < 12
      · rw [decide_eq_true h12]
        have hpl : places[b]? = some (places.getD b 0) := getD_some (by show b < 12; exact h12)
        have hpr : 1 ≤ places.getD b 0 ∧ places.getD b 0 ≤ 9 := by
          have hh : ∀ k : Fin 12, 1 ≤ places.getD k.1 0 ∧ places.getD k.1 0 ≤ 9 := by decide
          exact hh ⟨b, h12⟩
        refine SW.cons ?_
        with_reducible refine ST.assign T.there ?_ ?_ ?_
        rotate_left
        · rfl
        · rfl
        with_reducible refine EW.item ?_
        with_reducible refine EW.ints (is := [9, 8, 7, 6, 5, 4, 3, 2, 1, 9, 6, 3]) ?_ ?_ ?_
        · rfl
        · decide
        refine EW.name rfl <| PW2.item (v := .int (places.getD b 0 : Nat)) (get_last _ _) (by show (0 : Int) ≤ ((b : Nat) : Int); omega) (by show ((b : Nat) : Int) < 2 ^ 63; omega) ?_ ?_
        · rw [Int.toNat_natCast]
          have : (places.map fun k : Nat => V.int (k : Int))[b]? = some (.int (places.getD b 0 : Nat)) := by rw [List.getElem?_map, hpl]; rfl
          exact this
        generalize hpp : places.getD b 0 = pl at *
        refine SW.cons <| ST.assign T.there <| EW.binop <| EW.binop <| EW.name rfl <| EW.name rfl <| PW2.addN (startN w fs i) (skipN fi.1) <| EW.name rfl <| PW2.addN (startN w fs i + skipN fi.1) pl ?_
        refine SW.cons <| ST.ret <| EW.binop <| EW.binop <| EW.toN page rfl (by omega) <| EW.name rfl ⟨startN w fs i + skipN fi.1 + pl, rfl, ?_⟩
        refine EW.call T.ok (.top hfr) Fr.callee <| EWs.cons <| EW.name rfl <| EWs.cons <| EW.name rfl <| EWs.nil <| CW.mono (CW.lift (righ_call (n := 0) T hfr hpr) (by omega)) fun v H2 hv => ?_
        obtain ⟨rfl, e⟩ := hv; obtain rfl := e.symm
        refine PW2.app ?_ (sz2 (by repeat (first | exact lg1 | exact lg2 | exact lg3 | exact lg4 | apply lga | apply lgt | apply lgd | assumption)) (by repeat (first | exact lg1 | exact lg2 | exact lg3 | exact lg4 | apply lga | apply lgt | apply lgd | assumption)) (by decide))
        refine EW.fromN page rfl (by omega) <| EW.binop <| EW.name rfl <| EW.cint <| PW2.addN (startN w fs i + skipN fi.1 + pl) 1 ⟨startN w fs i + skipN fi.1 + pl + 1, rfl, ?_⟩
        refine PW2.app ?_ (sz2 (by repeat (first | exact lg1 | exact lg2 | exact lg3 | exact lg4 | apply lga | apply lgt | apply lgd | assumption)) (by repeat (first | exact lg1 | exact lg2 | exact lg3 | exact lg4 | apply lga | apply lgt | apply lgd | assumption)) (by decide))
        refine ret_set (fun k e => by cases e) (pairO_closed _ _) ⟨_, rfl⟩ ⟨?_, rfl⟩
        unfold turnL; rw [if_pos h12, hpp]
      · rw [decide_eq_false h12]
        refine SW.nil ?_
        refine SW.cons <| ST.assign T.there <| EW.midN page rfl (by omega) <| EW.binop <| EW.binop <| EW.name rfl <| EW.name rfl <| PW2.addN (startN w fs i) (skipN fi.1) <| EW.cint <| PW2.addN (startN w fs i + skipN fi.1) 1 ⟨startN w fs i + skipN fi.1 + 1, rfl, ?_⟩
        refine EW.binop <| EW.binop <| EW.name rfl <| EW.name rfl <| PW2.addN (startN w fs i) (skipN fi.1) <| EW.cint <| PW2.addN (startN w fs i + skipN fi.1) 10 ⟨startN w fs i + skipN fi.1 + 10, rfl, ?_⟩
        refine SW.cons <| ST.assign T.there <| EW.fromN page rfl (by omega) <| EW.binop <| EW.binop <| EW.name rfl <| EW.cint <| PW2.addN (startN w fs i) 10 <| EW.binop <| EW.cint <| EW.name rfl <| PW2.mulN 2 (skipN fi.1) (IntMulOk.of_left (by decide)) <| PW2.addN (startN w fs i + 10) (2 * skipN fi.1) ⟨startN w fs i + 10 + 2 * skipN fi.1, rfl, ?_⟩
        refine SW.cons <| ST.ite <| TW.plain <| EW.call T.ok (.top hfk) Fk.callee <| EWs.cons <| EW.name rfl <| EWs.nil <| CW.mono (CW.lift (know_call (n := 0) T hfk) (by omega)) fun v H2 hv => ?_
        obtain ⟨rfl, e⟩ := hv; obtain rfl := e.symm
        refine TV.bool ?_
        have ht16 : types.length = 16 := by decide
        cases hkn : known (newM fi.1 b) with
        | true =>
          refine SW.cons <| ST.ret <| EW.binop <| EW.binop <| EW.binop <| EW.toN page rfl (by omega) <| EW.name rfl ⟨startN w fs i, rfl, ?_⟩
          refine EW.item <| EW.cstr <| EW.binop <| EW.name rfl <| EW.cint <| PW2.divN (newM fi.1 b) 4096 (by decide) (by decide) <| PW2.itemN types (newM fi.1 b / 4096) (types.getD (newM fi.1 b / 4096) 0) (by rw [ht16]; decide) (getD_some (by rw [ht16]; omega)) ?_ rfl rfl
          refine PW2.app ?_ (sz2 (by repeat (first | exact lg1 | exact lg2 | exact lg3 | exact lg4 | apply lga | apply lgt | apply lgd | assumption)) (by repeat (first | exact lg1 | exact lg2 | exact lg3 | exact lg4 | apply lga | apply lgt | apply lgd | assumption)) (by decide))
          refine EW.name rfl ?_
          refine PW2.app ?_ (sz2 (by repeat (first | exact lg1 | exact lg2 | exact lg3 | exact lg4 | apply lga | apply lgt | apply lgd | assumption)) (by repeat (first | exact lg1 | exact lg2 | exact lg3 | exact lg4 | apply lga | apply lgt | apply lgd | assumption)) (by decide))
          refine EW.name rfl ?_
          refine PW2.app ?_ (sz2 (by repeat (first | exact lg1 | exact lg2 | exact lg3 | exact lg4 | apply lga | apply lgt | apply lgd | assumption)) (by repeat (first | exact lg1 | exact lg2 | exact lg3 | exact lg4 | apply lga | apply lgt | apply lgd | assumption)) (by decide))
          refine ret_set (fun k e => by cases e) (pairO_closed _ _) ⟨[], by simp⟩ ⟨?_, rfl⟩
          unfold turnL; rw [if_neg h12, if_pos hkn]
        | false =>
          refine SW.nil ?_
          refine SW.cons <| ST.ret <| EW.binop <| EW.binop <| EW.binop <| EW.binop <| EW.toN page rfl (by omega) <| EW.name rfl ⟨startN w fs i, rfl, ?_⟩
          refine EW.cstr <| PW2.addS _ [39, 63] ?_ ?_
          · exact sz2 (by repeat (first | exact lg1 | exact lg2 | exact lg3 | exact lg4 | apply lga | apply lgt | apply lgd | assumption)) (by repeat (first | exact lg1 | exact lg2 | exact lg3 | exact lg4 | apply lga | apply lgt | apply lgd | assumption)) (by decide)
          refine EW.name rfl ?_
          refine PW2.app ?_ (sz2 (by repeat (first | exact lg1 | exact lg2 | exact lg3 | exact lg4 | apply lga | apply lgt | apply lgd | assumption)) (by repeat (first | exact lg1 | exact lg2 | exact lg3 | exact lg4 | apply lga | apply lgt | apply lgd | assumption)) (by decide))
          refine EW.cstr <| PW2.addS _ [39] ?_ ?_
          · exact sz2 (by repeat (first | exact lg1 | exact lg2 | exact lg3 | exact lg4 | apply lga | apply lgt | apply lgd | assumption)) (by repeat (first | exact lg1 | exact lg2 | exact lg3 | exact lg4 | apply lga | apply lgt | apply lgd | assumption)) (by decide)
          refine EW.name rfl ?_
          refine PW2.app ?_ (sz2 (by repeat (first | exact lg1 | exact lg2 | exact lg3 | exact lg4 | apply lga | apply lgt | apply lgd | assumption)) (by repeat (first | exact lg1 | exact lg2 | exact lg3 | exact lg4 | apply lga | apply lgt | apply lgd | assumption)) (by decide))
          refine ret_set (fun k e => by cases e) (pairO_closed _ _) ⟨[], by simp⟩ ⟨?_, rfl⟩
          unfold turnL; rw [if_neg h12, if_neg (by rw [hkn]; decide)]
    cases hkn : known fi.1 with
    | true =>
      refine EW.cint ?_
      have : skipN fi.1 = 0 := by unfold skipN; rw [if_pos hkn]
      rw [this] at rest2
      exact rest2
    | false =>
      refine EW.cint ?_
      have : skipN fi.1 = 1 := by unfold skipN; rw [if_neg (by rw [hkn]; decide)]
      rw [this] at rest2
      exact rest2
  by_cases hbit : fi.1 / 2 ^ b % 2 = 1
  · rw [show (fi.1 / 2 ^ b % 2 == 1) = true from beq_iff_eq.mpr hbit]
    refine EW.binop <| EW.name rfl <| EW.binop <| EW.cint <| EW.name rfl <| PW2.powN 2 b hbits <| PW2.subN fi.1 (2 ^ b) (bit_le hbit) ?_
    have : newM fi.1 b = fi.1 - 2 ^ b := by unfold newM; rw [if_pos hbit]
    rw [← this]
    exact rest
  · rw [show (fi.1 / 2 ^ b % 2 == 1) = false from beq_eq_false_iff_ne.mpr hbit]
    refine EW.binop <| EW.name rfl <| EW.binop <| EW.cint <| EW.name rfl <| PW2.powN 2 b hbits <| PW2.addN fi.1 (2 ^ b) ?_
    have : newM fi.1 b = fi.1 + 2 ^ b := by unfold newM; rw [if_neg hbit]
    rw [← this]
    exact rest
end Mine

end
section
open PySem PySem.W PySem.Calls PyProof.Rows
set_option maxRecDepth 100000
namespace Mine

theorem ret_setC {H H' : List O} {Q : V → List O → Prop} {v : V} {k : Nat} {o : O} (hv : ∀ k, v ≠ .ref k) (ho : (∀ o ∈ H, o.Closed H.length) → o.Closed H.length) (hH : ∃ G, H' = H.set k o ++ G) (q : Q v (H.set k o)) :
    ∃ u H2 G, (match Fl.ret v with | .ret u => u | _ => .none) = u ∧ H' = H2 ++ G ∧ H.length ≤ H2.length ∧ ((∀ o ∈ H, o.Closed H.length) → ∀ o ∈ H2, o.Closed H2.length) ∧ u.Closed H2.length ∧ Q u H2 := by
  obtain ⟨G, hG⟩ := hH
  refine ⟨v, H.set k o, G, rfl, hG, by simp, fun h x hx => ?_, fun k e => absurd e (hv k), q⟩
  rw [List.length_set]
  rcases List.mem_or_eq_of_mem_set hx with hx | rfl
  · exact h x hx
  · exact ho h

theorem refs_closed {H : List O} {kf : Nat} {ks ls : List Nat} (hl : H[kf]? = some (.list (ks.map V.ref))) (hsub : ∀ k ∈ ls, k ∈ ks) (h : ∀ o ∈ H, o.Closed H.length) : (O.list (ls.map V.ref)).Closed H.length := fun k hk => by
  simp only [List.mem_map] at hk
  obtain ⟨j, hj, e⟩ := hk
  injection e with e
  subst e
  exact h _ (List.mem_of_getElem? hl) _ (List.mem_map.mpr ⟨_, hsub _ hj, rfl⟩)

theorem erase_map {α β : Type} (g : α → β) : ∀ (l : List α) (i : Nat), (l.map g).eraseIdx i = (l.eraseIdx i).map g
  | [], _ => rfl
  | _ :: _, 0 => rfl
  | _ :: r, i + 1 => congrArg _ (erase_map g r i)

def goL (w : Nat) (fs : List File) (page : List Nat) (i : Nat) : List Nat := if i + 1 = fs.length then page.take (startN w fs i - 1) else page.take (startN w fs i) ++ page.drop (startN w fs (i + 1))

theorem startN_pos {w : Nat} {fs : List File} {i : Nat} (h1 : 0 < i) (h2 : 0 < fs.length) : 1 ≤ startN w fs i := by
  cases fs with
  | nil => simp at h2
  | cons f r =>
    cases i with
    | zero => omega
    | succ i =>
      unfold startN
      rw [List.take_succ_cons, List.map_cons, List.sum_cons]
      unfold partN; split <;> omega

set_option maxHeartbeats 1000000 in
theorem go_call {B : Wd} {n : Nat} {H : List O} {w kt kf i : Nat} {ks fs} {f : Addr} {page : List Nat} (T : Top B) (hf : B.mg "_law_go" = some (.ref f)) (hk : H[kt]? = some (.dict (dictOf (tabD w)))) (FF : Files H kf ks fs) (hs : small fs) (hi : i < fs.length) (h1 : 1 < fs.length)
    (hp : page.length ≤ 100000) :
    CW B (n + 4) (.ref f) [.str (S page), .ref kf, .int i, .ref kt] H fun v H' => v = .str (S (goL w fs page i)) ∧ H' = H.set kf (.list ((ks.eraseIdx i).map V.ref)) := by
  obtain ⟨f', hf', F⟩ := T.go
  rw [hf] at hf'; cases hf'
  obtain ⟨fs', hfs, Fs⟩ := T.star
  have hkl := FF.len
  have hs1 := hs.1
  have hsl : sizeLine = 16777216 := rfl
  have glen : Glob B "len" (.builtin "len") := globB (T.bi _ (by simp)) (by decide) (by rfl)
  refine CW.def T.ok T.there F rfl (fun q cd L _ => ?_) (by decide +kernel)
  refine SW.cons <| ST.assign T.there <| EW.call T.ok (.top hfs) Fs.callee ?_
  iterate 3 refine EWs.cons (EW.name rfl ?_)
  refine EWs.nil (CW.mono (star_call T hfs hk FF hs) fun v H' hv => ?_)
  obtain ⟨rfl, e⟩ := hv; obtain rfl := e.symm
  refine SW.cons <| ST.assign T.there <| EW.call T.ok (.top hfs) Fs.callee <| EWs.cons <| EW.name rfl <| EWs.cons <| EW.binop <| EW.name rfl <| EW.cint <| PW2.addN i 1 <| EWs.cons <| EW.name rfl <| EWs.nil (CW.mono (star_call (i := i + 1) T hfs hk FF hs) fun v H' hv => ?_)
  obtain ⟨rfl, e⟩ := hv; obtain rfl := e.symm
  refine SW.cons <| ST.assign T.there <| EW.ifexp <| TW.compare <| EW.binop <| EW.name rfl <| EW.cint <| PW2.addN i 1 <| EW.call T.ok glen (.builtin _) <| EWs.cons <| EW.name rfl <| EWs.nil <| CW.lenl FF.l (by rw [List.length_map]; omega) ?_
  rw [List.length_map, hkl]
  refine PW2.eqN (i + 1) fs.length <| TV.bool ?_
  have rest : FW B (n + 3) (fenv goS q f cd L) (execs (goB.drop 3) (fenv goS q f cd L)) (upd (upd (upd (locOf ["page", "files", "i", "table"] [.str (S page), .ref kf, .int i, .ref kt]) "start" (.int (startN w fs i : Nat))) "after" (.int (startN w fs (i + 1) : Nat))) "page" (.str (S (goL w fs page i)))) H
      fun fl _ H' => ∃ v H2 G, (match (generalizing := false) fl with | .ret u => u | _ => .none) = v ∧ H' = H2 ++ G ∧ H.length ≤ H2.length ∧ ((∀ o ∈ H, o.Closed H.length) → ∀ o ∈ H2, o.Closed H2.length) ∧ v.Closed H2.length ∧ (v = .str (S (goL w fs page i)) ∧ H2 = H.set kf (.list ((ks.eraseIdx i).map V.ref))) := by
    refine SW.cons <| ST.expr <| EW.meth PySem.F.plainAttrs_list PySem.F.slot_list_pop PySem.F.type_list_pop <| EW.name rfl ⟨⟨_, FF.l, rfl⟩, EWs.cons <| EW.name rfl <| EWs.nil <| CW.pop T.there FF.l (by omega) (v := .ref (ks[i]'(by omega))) ?_ (by rw [List.length_map]; omega) ?_⟩
    · rw [Int.toNat_natCast, List.getElem?_map, List.getElem?_eq_getElem (by omega)]; rfl
    rw [Int.toNat_natCast, erase_map]
    refine SW.cons <| ST.ret <| EW.name rfl ?_
    exact ret_setC (fun k e => by cases e) (refs_closed FF.l fun k hk => List.mem_of_mem_eraseIdx hk) ⟨[], by simp⟩ ⟨rfl, rfl⟩
  by_cases hlast : i + 1 = fs.length
  · rw [show (i + 1 == fs.length) = true from beq_iff_eq.mpr hlast]
    have hst : 1 ≤ startN w fs i := startN_pos (by omega) (by omega)
    refine EW.toN page rfl (by omega) <| EW.binop <| EW.name rfl <| EW.cint <| PW2.subN (startN w fs i) 1 hst ⟨startN w fs i - 1, rfl, ?_⟩
    have : goL w fs page i = page.take (startN w fs i - 1) := by unfold goL; rw [if_pos hlast]
    rw [← this]; exact rest
  · rw [show (i + 1 == fs.length) = false from beq_eq_false_iff_ne.mpr hlast]
    refine EW.binop <| EW.toN page rfl (by omega) <| EW.name rfl ⟨startN w fs i, rfl, EW.fromN page rfl (by omega) <| EW.name rfl ⟨startN w fs (i + 1), rfl, ?_⟩⟩
    refine PW2.app ?_ (sz2 (by repeat (first | exact lg1 | exact lg2 | exact lg3 | exact lg4 | apply lga | apply lgt | apply lgd | assumption)) (by repeat (first | exact lg1 | exact lg2 | exact lg3 | exact lg4 | apply lga | apply lgt | apply lgd | assumption)) (by decide))
    have : goL w fs page i = page.take (startN w fs i) ++ page.drop (startN w fs (i + 1)) := by unfold goL; rw [if_neg hlast]
    rw [← this]; exact rest

def swapK (ks : List Nat) (i k : Nat) : List Nat := (ks.eraseIdx (i + 1)).take i ++ k :: (ks.eraseIdx (i + 1)).drop i
def chanL (w : Nat) (fs : List File) (page : List Nat) (i : Nat) : List Nat :=
  page.take (startN w fs i) ++ (page.take (startN w fs (i + 2) - 1)).drop (startN w fs (i + 1)) ++ [32] ++ (page.take (startN w fs (i + 1) - 1)).drop (startN w fs i) ++ page.drop (startN w fs (i + 2) - 1)

set_option maxHeartbeats 1000000 in
theorem chan_call {B : Wd} {n : Nat} {H : List O} {w kt kf i k1 : Nat} {ks fs} {f : Addr} {page : List Nat} (T : Top B) (hf : B.mg "_law_change" = some (.ref f)) (hk : H[kt]? = some (.dict (dictOf (tabD w)))) (FF : Files H kf ks fs) (hs : small fs) (hi : i + 1 < fs.length) (hk1 : ks[i + 1]? = some k1)
    (hp : page.length ≤ 100000) :
    CW B (n + 4) (.ref f) [.str (S page), .ref kf, .int i, .ref kt] H fun v H' => v = .str (S (chanL w fs page i)) ∧ H' = H.set kf (.list ((swapK ks i k1).map V.ref)) := by
  obtain ⟨f', hf', F⟩ := T.chan
  rw [hf] at hf'; cases hf'
  obtain ⟨fs', hfs, Fs⟩ := T.star
  have hkl := FF.len
  have hs1 := hs.1
  have hsl : sizeLine = 16777216 := rfl
  have hkf : kf < H.length := (List.getElem?_eq_some_iff.mp FF.l).1
  have p1 : 1 ≤ startN w fs (i + 1) := startN_pos (by omega) (by omega)
  have p2 : 1 ≤ startN w fs (i + 2) := startN_pos (by omega) (by omega)
  refine CW.def T.ok T.there F rfl (fun q cd L _ => ?_) (by decide +kernel)
  refine SW.cons <| ST.assign T.there <| EW.call T.ok (.top hfs) Fs.callee ?_
  iterate 3 refine EWs.cons (EW.name rfl ?_)
  refine EWs.nil (CW.mono (star_call T hfs hk FF hs) fun v H' hv => ?_)
  obtain ⟨rfl, e⟩ := hv; obtain rfl := e.symm
  refine SW.cons <| ST.assign T.there <| EW.call T.ok (.top hfs) Fs.callee <| EWs.cons <| EW.name rfl <| EWs.cons <| EW.binop <| EW.name rfl <| EW.cint <| PW2.addN i 1 <| EWs.cons <| EW.name rfl <| EWs.nil (CW.mono (star_call (i := i + 1) T hfs hk FF hs) fun v H' hv => ?_)
  obtain ⟨rfl, e⟩ := hv; obtain rfl := e.symm
  refine SW.cons <| ST.assign T.there <| EW.binop <| EW.call T.ok (.top hfs) Fs.callee <| EWs.cons <| EW.name rfl <| EWs.cons <| EW.binop <| EW.name rfl <| EW.cint <| PW2.addN i 2 <| EWs.cons <| EW.name rfl <| EWs.nil (CW.mono (star_call (i := i + 2) T hfs hk FF hs) fun v H' hv => ?_)
  obtain ⟨rfl, e⟩ := hv; obtain rfl := e.symm
  refine EW.cint <| PW2.subN (startN w fs (i + 2)) 1 p2 ?_
  have hel : (ks.eraseIdx (i + 1)).length = fs.length - 1 := by rw [List.length_eraseIdx]; split <;> omega
  refine SW.cons <| ST.expr <| EW.meth PySem.F.plainAttrs_list PySem.F.slot_list_insert PySem.F.type_list_insert <| EW.name rfl ⟨⟨_, FF.l, rfl⟩, EWs.cons <| EW.name rfl <| EWs.cons <| EW.meth PySem.F.plainAttrs_list PySem.F.slot_list_pop PySem.F.type_list_pop <| EW.name rfl ⟨⟨_, FF.l, rfl⟩, EWs.cons <| EW.binop <| EW.name rfl <| EW.cint <| PW2.addN i 1 <| EWs.nil <| CW.pop T.there FF.l (by omega) (v := .ref k1) ?_ (by rw [List.length_map]; omega) ?_⟩⟩
  · rw [Int.toNat_natCast, List.getElem?_map, hk1]; rfl
  rw [Int.toNat_natCast, erase_map]
  refine EWs.nil <| CW.insert (k := kf) (vs := (ks.eraseIdx (i + 1)).map V.ref) T.there (by rw [List.getElem?_set_self hkf]) (by omega) (by rw [List.length_map]; omega) (by rw [List.length_map]; omega) ?_
  rw [Int.toNat_natCast, List.set_set, ← List.map_take, ← List.map_drop, show ((ks.eraseIdx (i + 1)).take i).map V.ref ++ V.ref k1 :: ((ks.eraseIdx (i + 1)).drop i).map V.ref = (swapK ks i k1).map V.ref by unfold swapK; rw [List.map_append, List.map_cons]]
  refine SW.cons <| ST.ret <| EW.binop <| EW.binop <| EW.binop <| EW.binop <| EW.toN page rfl (by omega) <| EW.name rfl ⟨startN w fs i, rfl, EW.midN page rfl (by omega) <| EW.name rfl ⟨startN w fs (i + 1), rfl, EW.name rfl ⟨startN w fs (i + 2) - 1, rfl, ?_⟩⟩⟩
  refine PW2.app ?_ (sz2 (by repeat (first | exact lg1 | exact lg2 | exact lg3 | exact lg4 | apply lga | apply lgt | apply lgd | assumption)) (by repeat (first | exact lg1 | exact lg2 | exact lg3 | exact lg4 | apply lga | apply lgt | apply lgd | assumption)) (by decide))
  refine EW.cstr <| PW2.addS _ [32] ?_ ?_
  · exact sz2 (by repeat (first | exact lg1 | exact lg2 | exact lg3 | exact lg4 | apply lga | apply lgt | apply lgd | assumption)) (by repeat (first | exact lg1 | exact lg2 | exact lg3 | exact lg4 | apply lga | apply lgt | apply lgd | assumption)) (by decide)
  refine EW.midN page rfl (by omega) <| EW.name rfl ⟨startN w fs i, rfl, EW.binop <| EW.name rfl <| EW.cint <| PW2.subN (startN w fs (i + 1)) 1 p1 ⟨startN w fs (i + 1) - 1, rfl, ?_⟩⟩
  refine PW2.app ?_ (sz2 (by repeat (first | exact lg1 | exact lg2 | exact lg3 | exact lg4 | apply lga | apply lgt | apply lgd | assumption)) (by repeat (first | exact lg1 | exact lg2 | exact lg3 | exact lg4 | apply lga | apply lgt | apply lgd | assumption)) (by decide))
  refine EW.fromN page rfl (by omega) <| EW.name rfl ⟨startN w fs (i + 2) - 1, rfl, ?_⟩
  refine PW2.app ?_ (sz2 (by repeat (first | exact lg1 | exact lg2 | exact lg3 | exact lg4 | apply lga | apply lgt | apply lgd | assumption)) (by repeat (first | exact lg1 | exact lg2 | exact lg3 | exact lg4 | apply lga | apply lgt | apply lgd | assumption)) (by decide))
  refine ret_setC (fun k e => by cases e) (refs_closed FF.l fun k hk => ?_) ⟨[], by simp⟩ ⟨rfl, rfl⟩
  unfold swapK at hk
  rcases List.mem_append.mp hk with h | h
  · exact List.mem_of_mem_eraseIdx (List.mem_of_mem_take h)
  · rcases List.mem_cons.mp h with rfl | h
    · exact List.mem_of_getElem? hk1
    · exact List.mem_of_mem_eraseIdx (List.mem_of_mem_drop h)
end Mine

end
section
open PySem PySem.W PySem.Calls PyProof.Rows
set_option maxRecDepth 100000
namespace Mine

theorem CW.range2 {B : Wd} {n : Nat} {H : List O} {Q : V → List O → Prop} {a b : Int} (q : Q (.ref H.length) (H ++ [.range a b])) : CW B n (.type "range") [.int a, .int b] H Q := fun A E s ρ vs' QQ hA S hv kk => by
  obtain _ | ⟨⟨t, rfl⟩, _ | ⟨⟨u, rfl⟩, _ | _⟩⟩ := hv
  have hk : ∀ t1 u1 v1 : Tok, ∀ b' o, s.heap.get? b' = some o → (s.heap.push { cls := .type "range", data := .fields #[.int a t1, .int b u1, .int 1 v1] }).get? b' = some o := fun _ _ _ _ _ e => Heap.get?_push_of_some _ e
  refine wpAny_with_toks S.toks (call_range_2 fun htk => ?_)
  exact kk _ _ _ (ρ ++ [s.heap.objs.size]) _ q ⟨_, by rw [← S.len]; simp, rfl⟩ (S.more (hk _ _ _) htk no_new ⟨_, _, _, IsRange.new ..⟩) (Step.more (hk _ _ _) no_new)

/-- an expression that leaves its heap as it was, but for what it drops -/
theorem EW.gc0 {B : Wd} {n : Nat} {env : Env} {loc : Loc} {H : List O} {Q : V → List O → Prop} {e : Expr} (h : EW B n env loc e H fun v H' => (∃ G, H' = H ++ G) ∧ (∀ k, v ≠ .ref k) ∧ Q v H) : EW B n env loc e H Q :=
  EW.gc (EW.mono h fun v H' hv => by
    obtain ⟨⟨G, rfl⟩, hv, q⟩ := hv
    exact ⟨H, G, rfl, Nat.le_refl _, fun h => h, fun k e => absurd e (hv k), q⟩)

def nineL (m : Nat) : List Nat := (List.range 9).map fun j => rightC m (1 + j)
def rowL (m : Nat) : List Nat := if known m then [types.getD (m / 4096) 0] ++ nineL m else [39, 63] ++ nineL m ++ [39]
def comeL (w : Nat) (fs : List File) (page : List Nat) (i m : Nat) : List Nat :=
  if i = fs.length then page ++ [32] ++ rowL m ++ [32, 39, 39] else page.take (startN w fs i) ++ rowL m ++ [32, 39, 39, 32] ++ page.drop (startN w fs i)

theorem nineL_len (m : Nat) : (nineL m).length = 9 := by simp [nineL]
theorem rowL_len (m : Nat) : (rowL m).length ≤ 12 := by
  unfold rowL; split <;> simp [nineL_len]

set_option maxHeartbeats 1000000 in
theorem come_call {B : Wd} {n : Nat} {H : List O} {w kt kf i m : Nat} {ks fs} {f : Addr} {page : List Nat} (T : Top B) (hf : B.mg "_law_come" = some (.ref f)) (hk : H[kt]? = some (.dict (dictOf (tabD w)))) (FF : Files H kf ks fs) (hs : small fs) (hi : i ≤ fs.length) (hm : m < 65536)
    (hp : page.length ≤ 100000) :
    CW B (n + 4) (.ref f) [.str (S page), .ref kf, .int i, .int m, .ref kt] H fun v H' => v = .str (S (comeL w fs page i m)) ∧ H' = H.set kf (.list ((ks.take i ++ H.length :: ks.drop i).map V.ref)) ++ [pairO m []] := by
  obtain ⟨f', hf', F⟩ := T.come
  rw [hf] at hf'; cases hf'
  obtain ⟨fs', hfs, Fs⟩ := T.star
  obtain ⟨fk, hfk, Fk⟩ := T.know
  obtain ⟨fr, hfr, Fr⟩ := T.righ
  have hkl := FF.len
  have hs1 := hs.1
  have hsl : sizeLine = 16777216 := rfl
  have hkf : kf < H.length := (List.getElem?_eq_some_iff.mp FF.l).1
  have glen : Glob B "len" (.builtin "len") := globB (T.bi _ (by simp)) (by decide) (by rfl)
  have gran : Glob B "range" (.type "range") := globB T.ran (by decide) (by rfl)
  have h9 := nineL_len m
  have h9' : (nineL m).length ≤ 9 := Nat.le_of_eq h9
  refine CW.def T.ok T.there F rfl (fun q cd L _ => ?_) (by decide +kernel)
  refine SW.cons <| ST.assign T.there <| EW.gc0 <| EW.meth PySem.F.plainAttrs_str PySem.F.slot_str_join PySem.F.type_str_join <| EW.cstr ⟨rfl, EWs.cons <| EW.comp T.there <| EW.call T.ok gran (.type _) <| EWs.cons <| EW.cint <| EWs.cons <| EW.cint <| EWs.nil <| CW.range2 ?_⟩
  refine ⟨rangeOf 1 10, _, fun j acc H' => H' = H ++ [.range 1 10] ∧ acc = chs ((nineL m).take j), IT.range (get_last H _) (by decide), by decide, ⟨rfl, rfl⟩, ?_, ?_, ?_⟩
  · rintro j acc H' ⟨rfl, rfl⟩
    exact ⟨trivial, by unfold chs; rw [List.length_map, List.length_take]; omega⟩
  · rintro j v acc H' C hv ⟨rfl, rfl⟩
    have hj : j < 9 := (List.getElem?_eq_some_iff.mp hv).1
    have hv' : v = .int ((1 + j : Nat) : Int) := by
      have : (rangeOf 1 10)[j]? = some (.int (1 + (j : Int))) := by
        show ((List.range 9).map fun i : Nat => V.int (1 + i))[j]? = _
        rw [List.getElem?_map, List.getElem?_range hj]; rfl
      rw [this] at hv
      have := (Option.some.inj hv).symm
      rw [this]; push_cast; rfl
    subst hv'
    refine AW.name T.there ⟨locC_upd rfl, ?_⟩
    refine EW.call T.ok (.top hfr) Fr.callee <| EWs.cons <| EW.name (v := .int (m : Int)) rfl <| EWs.cons <| EW.name rfl <| EWs.nil <| CW.mono (CW.lift (righ_call (n := 0) T hfr ⟨by omega, by omega⟩) (by omega)) fun v H2 hv => ?_
    obtain ⟨rfl, e⟩ := hv; obtain rfl := e.symm
    refine ⟨rfl, ?_⟩
    have : (nineL m)[j]? = some (rightC m (1 + j)) := by unfold nineL; rw [List.getElem?_map, List.getElem?_range hj]; rfl
    rw [List.take_add_one, this]; simp [chs]
  · rintro acc H' ⟨rfl, rfl⟩
    rw [show (rangeOf 1 10).length = 9 from by decide, List.take_of_length_le (by omega)]
    refine EWs.nil <| CW.join (vs := chs (nineL m)) (by simp) (strsOf_chs _) ?_ ?_
    · unfold JoinOk
      have := StrLaws.joinFits (sep := Str.ofString "") (texts := (nineL m).map fun c => S [c]) (B := 1) (fun y hy => by
        simp only [List.mem_map] at hy
        obtain ⟨c, _, rfl⟩ := hy
        rw [S_len]; exact Nat.le_refl _) (by simp only [List.length_map]; have : (Str.ofString "").length = 0 := rfl; rw [this]; omega)
      rw [this]; rfl
    refine ⟨⟨_, List.append_assoc _ _ _⟩, fun k e => (by cases e), ?_⟩
    have h1 : ((nineL m).map fun c => S [c]) = ((nineL m).map fun c => [c]).map S := by simp [Function.comp_def]
    rw [h1, show (Str.ofString "") = S [] from rfl, txtjoin_S, glue_nil]
    have ht16 : types.length = 16 := by decide
    have hr := rowL_len m
    -- what follows the row
    have rest : FW B (n + 3) (fenv comeS q f cd L) (execs (comeB.drop 2) (fenv comeS q f cd L)) (upd (upd (locOf ["page", "files", "i", "mode", "table"] [.str (S page), .ref kf, .int i, .int m, .ref kt]) "nine" (.str (S (nineL m)))) "row" (.str (S (rowL m)))) H
        fun fl _ H' => ∃ v H2 G, (match (generalizing := false) fl with | .ret u => u | _ => .none) = v ∧ H' = H2 ++ G ∧ H.length ≤ H2.length ∧ ((∀ o ∈ H, o.Closed H.length) → ∀ o ∈ H2, o.Closed H2.length) ∧ v.Closed H2.length ∧ (v = .str (S (comeL w fs page i m)) ∧ H2 = H.set kf (.list ((ks.take i ++ H.length :: ks.drop i).map V.ref)) ++ [pairO m []]) := by
      refine SW.cons <| ST.assign T.there <| EW.call T.ok (.top hfs) Fs.callee ?_
      iterate 3 refine EWs.cons (EW.name rfl ?_)
      refine EWs.nil (CW.mono (star_call T hfs hk FF hs) fun v H' hv => ?_)
      obtain ⟨rfl, e⟩ := hv; obtain rfl := e.symm
      refine SW.cons <| ST.assign T.there <| EW.ifexp <| TW.compare <| EW.name rfl <| EW.call T.ok glen (.builtin _) <| EWs.cons <| EW.name rfl <| EWs.nil <| CW.lenl FF.l (by rw [List.length_map]; omega) ?_
      rw [List.length_map, hkl]
      refine PW2.eqN i fs.length <| TV.bool ?_
      have rest2 : ∀ pg : List Nat, pg = comeL w fs page i m → FW B (n + 3) (fenv comeS q f cd L) (execs (comeB.drop 4) (fenv comeS q f cd L)) (upd (upd (upd (upd (locOf ["page", "files", "i", "mode", "table"] [.str (S page), .ref kf, .int i, .int m, .ref kt]) "nine" (.str (S (nineL m)))) "row" (.str (S (rowL m)))) "start" (.int (startN w fs i : Nat))) "page" (.str (S pg))) H
        fun fl _ H' => ∃ v H2 G, (match (generalizing := false) fl with | .ret u => u | _ => .none) = v ∧ H' = H2 ++ G ∧ H.length ≤ H2.length ∧ ((∀ o ∈ H, o.Closed H.length) → ∀ o ∈ H2, o.Closed H2.length) ∧ v.Closed H2.length ∧ (v = .str (S (comeL w fs page i m)) ∧ H2 = H.set kf (.list ((ks.take i ++ H.length :: ks.drop i).map V.ref)) ++ [pairO m []]) := fun pg hpg => by
        refine SW.cons <| ST.expr <| EW.meth PySem.F.plainAttrs_list PySem.F.slot_list_insert PySem.F.type_list_insert <| EW.name rfl ⟨⟨_, FF.l, rfl⟩, EWs.cons <| EW.name rfl <| EWs.cons <| EW.list <| EWs.cons <| EW.name rfl <| EWs.cons <| EW.cstr <| EWs.nil ⟨by simp; exact (by decide : 2 ≤ sizeLine), EWs.nil <| CW.insert (k := kf) T.there (getElem?_app FF.l) (by omega) (by rw [List.length_map]; omega) (by rw [List.length_map]; omega) ?_⟩⟩
        rw [Int.toNat_natCast, List.set_append_left _ _ hkf, ← List.map_take, ← List.map_drop, show (ks.take i).map V.ref ++ V.ref H.length :: (ks.drop i).map V.ref = (ks.take i ++ H.length :: ks.drop i).map V.ref by rw [List.map_append, List.map_cons]]
        refine SW.cons <| ST.ret <| EW.name rfl ?_
        refine ⟨_, _, [], rfl, (List.append_nil _).symm, by simp, fun h o ho => ?_, fun k e => (by cases e), by rw [hpg], rfl⟩
        rcases List.mem_append.mp ho with ho | ho
        · rcases List.mem_or_eq_of_mem_set ho with ho | rfl
          · exact (h o ho).mono (by simp)
          · intro k hk
            simp only [List.mem_map] at hk
            obtain ⟨j, hj, e⟩ := hk
            injection e with e
            subst e
            have : ∀ x ∈ ks, x < H.length := fun x hx => h _ (List.mem_of_getElem? FF.l) x (List.mem_map.mpr ⟨x, hx, rfl⟩)
            simp only [List.length_append, List.length_set, List.length_cons, List.length_nil]
            rcases List.mem_append.mp hj with hj | hj
            · have := this _ (List.mem_of_mem_take hj); omega
            · rcases List.mem_cons.mp hj with rfl | hj
              · omega
              · have := this _ (List.mem_of_mem_drop hj); omega
        · rw [List.mem_singleton.mp ho]; exact pairO_closed _ _ _
      by_cases hie : i = fs.length
      · rw [show (i == fs.length) = true from beq_iff_eq.mpr hie]
        refine EW.binop <| EW.binop <| EW.binop <| EW.name rfl <| EW.cstr <| PW2.addS page [32] ?_ ?_
        · exact sz2 (by repeat (first | exact lg1 | exact lg2 | exact lg3 | exact lg4 | apply lga | apply lgt | apply lgd | assumption)) (by repeat (first | exact lg1 | exact lg2 | exact lg3 | exact lg4 | apply lga | apply lgt | apply lgd | assumption)) (by decide)
        refine EW.name rfl ?_
        refine PW2.app ?_ (sz2 (by repeat (first | exact lg1 | exact lg2 | exact lg3 | exact lg4 | apply lga | apply lgt | apply lgd | assumption)) (by repeat (first | exact lg1 | exact lg2 | exact lg3 | exact lg4 | apply lga | apply lgt | apply lgd | assumption)) (by decide))
        refine EW.cstr <| PW2.addS _ [32, 39, 39] ?_ ?_
        · exact sz2 (by repeat (first | exact lg1 | exact lg2 | exact lg3 | exact lg4 | apply lga | apply lgt | apply lgd | assumption)) (by repeat (first | exact lg1 | exact lg2 | exact lg3 | exact lg4 | apply lga | apply lgt | apply lgd | assumption)) (by decide)
        exact rest2 _ (by unfold comeL; rw [if_pos hie])
      · rw [show (i == fs.length) = false from beq_eq_false_iff_ne.mpr hie]
        refine EW.binop <| EW.binop <| EW.binop <| EW.toN page rfl (by omega) <| EW.name rfl ⟨startN w fs i, rfl, EW.name rfl ?_⟩
        refine PW2.app ?_ (sz2 (by repeat (first | exact lg1 | exact lg2 | exact lg3 | exact lg4 | apply lga | apply lgt | apply lgd | assumption)) (by repeat (first | exact lg1 | exact lg2 | exact lg3 | exact lg4 | apply lga | apply lgt | apply lgd | assumption)) (by decide))
        refine EW.cstr <| PW2.addS _ [32, 39, 39, 32] ?_ ?_
        · exact sz2 (by repeat (first | exact lg1 | exact lg2 | exact lg3 | exact lg4 | apply lga | apply lgt | apply lgd | assumption)) (by repeat (first | exact lg1 | exact lg2 | exact lg3 | exact lg4 | apply lga | apply lgt | apply lgd | assumption)) (by decide)
        refine EW.fromN page rfl (by omega) <| EW.name rfl ⟨startN w fs i, rfl, ?_⟩
        refine PW2.app ?_ (sz2 (by repeat (first | exact lg1 | exact lg2 | exact lg3 | exact lg4 | apply lga | apply lgt | apply lgd | assumption)) (by repeat (first | exact lg1 | exact lg2 | exact lg3 | exact lg4 | apply lga | apply lgt | apply lgd | assumption)) (by decide))
        exact rest2 _ (by unfold comeL; rw [if_neg hie])
    refine SW.cons <| ST.assign T.there <| EW.ifexp <| TW.plain <| EW.call T.ok (.top hfk) Fk.callee <| EWs.cons <| EW.name rfl <| EWs.nil <| CW.mono (CW.lift (know_call (n := 0) T hfk) (by omega)) fun v H2 hv => ?_
    obtain ⟨rfl, e⟩ := hv; obtain rfl := e.symm
    refine TV.bool ?_
    cases hkn : known m with
    | true =>
      refine EW.binop <| EW.item <| EW.cstr <| EW.binop <| EW.name rfl <| EW.cint <| PW2.divN m 4096 (by decide) (by decide) <| PW2.itemN types (m / 4096) (types.getD (m / 4096) 0) (by rw [ht16]; decide) (getD_some (by rw [ht16]; omega)) ?_ rfl rfl
      refine EW.name rfl ?_
      refine PW2.app ?_ (sz2 (by repeat (first | exact lg1 | exact lg2 | exact lg3 | exact lg4 | apply lga | apply lgt | apply lgd | assumption)) (by repeat (first | exact lg1 | exact lg2 | exact lg3 | exact lg4 | apply lga | apply lgt | apply lgd | assumption)) (by decide))
      have : rowL m = [types.getD (m / 4096) 0] ++ nineL m := by unfold rowL; rw [if_pos hkn]
      rw [← this]; exact rest
    | false =>
      refine EW.binop <| EW.binop <| EW.cstr <| EW.name rfl <| PW2.addS [39, 63] (nineL m) ?_ ?_
      · exact sz2 (by repeat (first | exact lg1 | exact lg2 | exact lg3 | exact lg4 | apply lga | apply lgt | apply lgd | assumption)) (by repeat (first | exact lg1 | exact lg2 | exact lg3 | exact lg4 | apply lga | apply lgt | apply lgd | assumption)) (by decide)
      refine EW.cstr <| PW2.addS _ [39] ?_ ?_
      · exact sz2 (by repeat (first | exact lg1 | exact lg2 | exact lg3 | exact lg4 | apply lga | apply lgt | apply lgd | assumption)) (by repeat (first | exact lg1 | exact lg2 | exact lg3 | exact lg4 | apply lga | apply lgt | apply lgd | assumption)) (by decide)
      have : rowL m = [39, 63] ++ nineL m ++ [39] := by unfold rowL; rw [if_neg (by rw [hkn]; decide)]
      rw [← this]; exact rest
end Mine

end
section
open PySem PySem.W PySem.Calls PyProof.Rows
set_option maxRecDepth 100000
namespace Mine

def sumSp (w : Nat) (l : List Nat) : Nat := (l.map fun c => (spell w c).length).sum
def putL (w : Nat) (fs : List File) (page : List Nat) (i p c : Nat) (fi : File) : List Nat :=
  let fr := frontN w fs i fi
  if fi.2 = [] then if bareL [c] then page.take fr ++ [c] ++ page.drop (fr + 2) else page.take (fr + 1) ++ spell w c ++ page.drop (fr + 1)
  else if bareL fi.2 then
    if bareL [c] then page.take (fr + p) ++ [c] ++ page.drop (fr + p)
    else page.take fr ++ [39] ++ (page.take (fr + p)).drop fr ++ spell w c ++ (page.take (fr + fi.2.length)).drop (fr + p) ++ [39] ++ page.drop (fr + fi.2.length)
  else page.take (fr + 1 + sumSp w (fi.2.take p)) ++ spell w c ++ page.drop (fr + 1 + sumSp w (fi.2.take p))

theorem sumSp_le (w : Nat) : ∀ l : List Nat, sumSp w l ≤ 15 * l.length
  | [] => by simp [sumSp]
  | c :: r => by
    have := sumSp_le w r
    have := spell_len w c
    simp only [sumSp, List.map_cons, List.sum_cons, List.length_cons] at *
    omega

/-- the comprehension that sums -/
theorem comp_sum {B : Wd} {n : Nat} {env : Env} {loc : Loc} {H : List O} {w kt : Nat} {l : List Nat} {S1 : Scope} {p1 p2 p3 p4 p5 p6 p7 : Pos} {x : Str} {fs : Addr} (T : Top B) (hfs : B.mg "_law_spelled" = some (.ref fs)) (hcal : Callee B (.ref fs)) (hk : H[kt]? = some (.dict (dictOf (tabD w)))) (hl : l.length ≤ 1000)
    {Fin : List V → List O → Prop} (fin : Fin (l.map fun c => V.int ((spell w c).length : Nat)) H)
    (hx : (S1.names.lookup x == some .free) = false) (hkx : ∀ C, (compEnvC S1 (closOf env S1.names []) C env).kindOf x = some .local) (ht : locC S1 loc "table" = some (.ref kt)) (hxt : x ≠ "table") (hd : (x == ("__debug__" : Str)) = false) (hc : (x == ("__classdict__" : Str)) = false)
    (hk1 : ∀ C, (compEnvC S1 (closOf env S1.names []) C env).kindOf "len" = some .globalImplicit) (hk2 : ∀ C, (compEnvC S1 (closOf env S1.names []) C env).kindOf "_law_spelled" = some .globalImplicit) :
    CompOk B (n + 1) env S1 (.Call (.Name (Str.ofString "len") p1) [.Call (.Name (Str.ofString "_law_spelled") p2) [.Name x p3, .Name (Str.ofString "table") p4] [] p5] [] p6) (.Name x p7) [] Fin (.str (S l)) loc H := by
  have hsl : sizeLine = 16777216 := rfl
  have glen : Glob B "len" (.builtin "len") := globB (T.bi _ (by simp)) (by decide) (by rfl)
  refine ⟨signs (S l), fun _ => True, fun i acc H2 => H2 = H ∧ acc = (l.take i).map fun c => V.int ((spell w c).length : Nat), IT.str, by rw [signs_len]; omega, ⟨rfl, rfl⟩, ?_, ?_, ?_⟩
  · rintro i acc H2 ⟨rfl, rfl⟩
    exact ⟨trivial, by rw [List.length_map, List.length_take]; omega⟩
  · rintro i v acc H2 C hv ⟨rfl, rfl⟩
    obtain ⟨c, hc', rfl⟩ := signs_S l i v hv
    refine AW.name T.there ⟨locC_upd hx, ?_⟩ (hkx C)
    have hxs : upd (locC S1 loc) x (V.str (S [c])) x = some (.str (S [c])) := by unfold upd; rw [if_pos rfl]
    have hts : upd (locC S1 loc) x (V.str (S [c])) "table" = some (.ref kt) := by unfold upd; rw [if_neg (Ne.symm hxt)]; exact ht
    refine EW.call T.ok glen (.builtin _) (EWs.cons (EW.call T.ok (.top hfs) hcal (EWs.cons (EW.name hxs (EWs.cons (EW.name hts (EWs.nil (CW.mono (spel_call T hfs hk) fun v H' hv => ?_)))) hd hc)) (hk2 C))) (hk1 C)
    obtain ⟨rfl, e⟩ := hv; obtain rfl := e.symm
    refine EWs.nil (CW.lens (by rw [S_len]; have := spell_len w c; omega) ⟨rfl, ?_⟩)
    rw [List.take_add_one, hc', List.map_append, S_len]; rfl
  · rintro acc H2 ⟨rfl, rfl⟩
    rw [signs_len, List.take_length]; exact fin

theorem sum_ints {B : Wd} {n : Nat} {H : List O} {Q : V → List O → Prop} {w : Nat} {l : List Nat} (q : Q (.int (sumSp w l : Nat)) (H ++ [.list (l.map fun c => V.int ((spell w c).length : Nat))])) :
    CW B n (.builtin "sum") [.ref H.length] (H ++ [.list (l.map fun c => V.int ((spell w c).length : Nat))]) Q := by
  refine CW.sum (is := (l.map fun c => (spell w c).length).map fun k : Nat => (k : Int)) (get_last H _) ?_ ?_
  · have := intsOf_nat (l.map fun c => (spell w c).length)
    simpa [Function.comp_def] using this
  · rw [sum_cast]; exact q

theorem S_ne (l : List Nat) : (S l != S []) = decide (l ≠ []) := by rw [bne, S_beq]; simp
theorem S_eqnil (l : List Nat) : (S l == S []) = decide (l = []) := S_beq l []

set_option maxHeartbeats 2000000 in
theorem put_call {B : Wd} {n : Nat} {H : List O} {w kt kf i p c : Nat} {ks fs} {f : Addr} {fi : File} {page : List Nat} {ki : Nat} (T : Top B) (hf : B.mg "_law_put" = some (.ref f)) (hk : H[kt]? = some (.dict (dictOf (tabD w)))) (FF : Files H kf ks fs) (hs : small fs) (hi : fs[i]? = some fi) (hki : ks[i]? = some ki) (hkk : kt ≠ ki)
    (hp : page.length ≤ 100000) (hpn : p ≤ fi.2.length) :
    CW B (n + 5) (.ref f) [.str (S page), .ref kf, .int i, .int p, .str (S [c]), .ref kt] H fun v H' => v = .str (S (putL w fs page i p c fi)) ∧ H' = H.set ki (pairO fi.1 (fi.2.take p ++ [c] ++ fi.2.drop p)) := by
  obtain ⟨f', hf', F⟩ := T.put
  rw [hf] at hf'; cases hf'
  obtain ⟨ff, hff, Ff⟩ := T.fron
  obtain ⟨fb, hfb, Fb⟩ := T.bare
  obtain ⟨fsp, hfsp, Fsp⟩ := T.spel
  have hil := (List.getElem?_eq_some_iff.mp hi).1
  have hkl := FF.len
  have hs1 := hs.1
  have hnm : fi.2.length ≤ 1000 := hs.2 _ (List.mem_of_getElem? hi)
  have hsl : sizeLine = 16777216 := rfl
  have glen : Glob B "len" (.builtin "len") := globB (T.bi _ (by simp)) (by decide) (by rfl)
  have gsum : Glob B "sum" (.builtin "sum") := globB (T.bi _ (by simp)) (by decide) (by rfl)
  have hsp := spell_len w c
  refine CW.def T.ok T.there F rfl (fun q cd L _ => ?_) (by decide +kernel)
  refine SW.cons <| ST.assign T.there <| EW.cell1 rfl rfl FF hs hi ?_
  refine SW.cons <| ST.assign T.there <| EW.call T.ok (.top hff) Ff.callee ?_
  iterate 3 refine EWs.cons (EW.name rfl ?_)
  refine EWs.nil (CW.mono (fron_call T hff hk FF hs hi) fun v H' hv => ?_)
  obtain ⟨rfl, e⟩ := hv; obtain rfl := e.symm
  refine SW.cons <| ST.setItem T.there <| EW.binop <| EW.binop <| EW.toN fi.2 rfl (by omega) <| EW.name rfl ⟨p, rfl, EW.name rfl <| PW2.app ?_ (sz2 (by repeat (first | exact lg1 | exact lg2 | exact lg3 | exact lg4 | apply lga | apply lgt | apply lgd | assumption)) (by repeat (first | exact lg1 | exact lg2 | exact lg3 | exact lg4 | apply lga | apply lgt | apply lgd | assumption)) (by decide))⟩
  refine EW.fromN fi.2 rfl (by omega) <| EW.name rfl ⟨p, rfl, PW2.app ?_ (sz2 (by repeat (first | exact lg1 | exact lg2 | exact lg3 | exact lg4 | apply lga | apply lgt | apply lgd | assumption)) (by repeat (first | exact lg1 | exact lg2 | exact lg3 | exact lg4 | apply lga | apply lgt | apply lgd | assumption)) (by decide))⟩
  refine EW.item <| EW.name rfl <| EW.name rfl <| PW2.item FF.l (by omega) (by omega) (v := .ref ki) ?_ <| EW.cint ⟨ki, _, 1, rfl, rfl, FF.at_ i fi ki hi hki, by decide, by simp, by simp; exact (by decide : 2 ≤ sizeLine), ?_⟩
  · rw [Int.toNat_natCast, List.getElem?_map, hki]; rfl
  show FW B (n + 4) _ _ _ (H.set ki (pairO fi.1 (fi.2.take p ++ [c] ++ fi.2.drop p))) _
  have hk' : (H.set ki (pairO fi.1 (fi.2.take p ++ [c] ++ fi.2.drop p)))[kt]? = some (.dict (dictOf (tabD w))) := by rw [List.getElem?_set_ne (Ne.symm hkk)]; exact hk
  generalize hH1 : H.set ki (pairO fi.1 (fi.2.take p ++ [c] ++ fi.2.drop p)) = H1 at *
  have fin : ∀ {l : List Nat}, l = putL w fs page i p c fi → ∃ u H2 G, (match Fl.ret (V.str (S l)) with | .ret u => u | _ => .none) = u ∧ H1 = H2 ++ G ∧ H.length ≤ H2.length ∧ ((∀ o ∈ H, o.Closed H.length) → ∀ o ∈ H2, o.Closed H2.length) ∧ u.Closed H2.length ∧ (u = .str (S (putL w fs page i p c fi)) ∧ H2 = H1) := fun {l} hl => by
    subst hH1
    exact ret_set (Q := fun u H2 => u = .str (S (putL w fs page i p c fi)) ∧ H2 = _) (fun k e => by cases e) (pairO_closed _ _) ⟨[], by simp⟩ ⟨by rw [hl], rfl⟩
  generalize hfr : frontN w fs i fi = fr at *
  refine SW.cons <| ST.assign T.there <| EW.call T.ok (.top hfsp) Fsp.callee <| EWs.cons <| EW.name rfl <| EWs.cons <| EW.name rfl <| EWs.nil (CW.mono (CW.lift (spel_call (n := 0) T hfsp hk') (by omega)) fun v H' hv => ?_)
  obtain ⟨rfl, e⟩ := hv; obtain rfl := e.symm
  refine SW.cons <| ST.ite <| TW.compare <| EW.name rfl <| EW.cstr <| PW2.eqs <| TV.bool ?_
  rw [show (Str.ofString "") = S [] from rfl, S_eqnil]
  by_cases h0 : fi.2 = []
  · rw [decide_eq_true h0]
    refine SW.cons <| ST.ret <| EW.ifexp <| TW.plain <| EW.call T.ok (.top hfb) Fb.callee <| EWs.cons <| EW.name rfl <| EWs.nil <| CW.mono (CW.lift (bare_call (n := 0) T hfb (by simp)) (by omega)) fun v H2 hv => ?_
    obtain ⟨rfl, e⟩ := hv; obtain rfl := e.symm
    refine TV.bool ?_
    cases hb : bareL [c] with
    | true =>
      refine EW.binop <| EW.binop <| EW.toN page rfl (by omega) <| EW.name rfl ⟨fr, rfl, EW.name rfl <| PW2.app ?_ (sz2 (by repeat (first | exact lg1 | exact lg2 | exact lg3 | exact lg4 | apply lga | apply lgt | apply lgd | assumption)) (by repeat (first | exact lg1 | exact lg2 | exact lg3 | exact lg4 | apply lga | apply lgt | apply lgd | assumption)) (by decide))⟩
      refine EW.fromN page rfl (by omega) <| EW.binop <| EW.name rfl <| EW.cint <| PW2.addN fr 2 ⟨fr + 2, rfl, PW2.app ?_ (sz2 (by repeat (first | exact lg1 | exact lg2 | exact lg3 | exact lg4 | apply lga | apply lgt | apply lgd | assumption)) (by repeat (first | exact lg1 | exact lg2 | exact lg3 | exact lg4 | apply lga | apply lgt | apply lgd | assumption)) (by decide))⟩
      exact fin (by unfold putL; simp only [hfr]; rw [if_pos h0, if_pos hb])
    | false =>
      refine EW.binop <| EW.binop <| EW.toN page rfl (by omega) <| EW.binop <| EW.name rfl <| EW.cint <| PW2.addN fr 1 ⟨fr + 1, rfl, EW.name rfl <| PW2.app ?_ (sz2 (by repeat (first | exact lg1 | exact lg2 | exact lg3 | exact lg4 | apply lga | apply lgt | apply lgd | assumption)) (by repeat (first | exact lg1 | exact lg2 | exact lg3 | exact lg4 | apply lga | apply lgt | apply lgd | assumption)) (by decide))⟩
      refine EW.fromN page rfl (by omega) <| EW.binop <| EW.name rfl <| EW.cint <| PW2.addN fr 1 ⟨fr + 1, rfl, PW2.app ?_ (sz2 (by repeat (first | exact lg1 | exact lg2 | exact lg3 | exact lg4 | apply lga | apply lgt | apply lgd | assumption)) (by repeat (first | exact lg1 | exact lg2 | exact lg3 | exact lg4 | apply lga | apply lgt | apply lgd | assumption)) (by decide))⟩
      exact fin (by unfold putL; simp only [hfr]; rw [if_pos h0, if_neg (by rw [hb]; decide)])
  · rw [decide_eq_false h0]
    refine SW.nil ?_
    refine SW.cons <| ST.ite <| TW.not <| TW.plain <| EW.call T.ok (.top hfb) Fb.callee <| EWs.cons <| EW.name rfl <| EWs.nil <| CW.mono (CW.lift (bare_call (n := 0) T hfb (by omega)) (by omega)) fun v H2 hv => ?_
    obtain ⟨rfl, e⟩ := hv; obtain rfl := e.symm
    refine TV.bool ?_
    cases hbn : bareL fi.2 with
    | false =>
      have hsum := sumSp_le w (fi.2.take p)
      have hlt : (fi.2.take p).length ≤ 1000 := by rw [List.length_take]; omega
      refine SW.cons <| ST.assign T.there <| EW.gc0 <| EW.binop <| EW.binop <| EW.name rfl <| EW.cint <| PW2.addN fr 1 <| EW.call T.ok gsum (.builtin _) <| EWs.cons <| EW.comp T.there <| EW.toN fi.2 rfl (by omega) <| EW.name rfl ⟨p, rfl, ?_⟩
      refine comp_sum (w := w) (kt := kt) T hfsp Fsp.callee hk' hlt ?_ rfl (fun _ => rfl) rfl (by decide) (by decide) (by decide) (fun _ => rfl) (fun _ => rfl)
      refine EWs.nil <| sum_ints <| PW2.addN (fr + 1) (sumSp w (fi.2.take p)) ⟨⟨_, rfl⟩, fun k e => (by cases e), ?_⟩
      refine SW.cons <| ST.ret <| EW.binop <| EW.binop <| EW.toN page rfl (by omega) <| EW.name rfl ⟨fr + 1 + sumSp w (fi.2.take p), rfl, EW.name rfl <| PW2.app ?_ (sz2 (by repeat (first | exact lg1 | exact lg2 | exact lg3 | exact lg4 | apply lga | apply lgt | apply lgd | assumption)) (by repeat (first | exact lg1 | exact lg2 | exact lg3 | exact lg4 | apply lga | apply lgt | apply lgd | assumption)) (by decide))⟩
      refine EW.fromN page rfl (by omega) <| EW.name rfl ⟨fr + 1 + sumSp w (fi.2.take p), rfl, PW2.app ?_ (sz2 (by repeat (first | exact lg1 | exact lg2 | exact lg3 | exact lg4 | apply lga | apply lgt | apply lgd | assumption)) (by repeat (first | exact lg1 | exact lg2 | exact lg3 | exact lg4 | apply lga | apply lgt | apply lgd | assumption)) (by decide))⟩
      exact fin (by unfold putL; simp only [hfr]; rw [if_neg h0, if_neg (by rw [hbn]; decide)])
    | true =>
      refine SW.nil ?_
      refine SW.cons <| ST.assign T.there <| EW.binop <| EW.name rfl <| EW.name rfl <| PW2.addN fr p ?_
      refine SW.cons <| ST.ite <| TW.plain <| EW.call T.ok (.top hfb) Fb.callee <| EWs.cons <| EW.name rfl <| EWs.nil <| CW.mono (CW.lift (bare_call (n := 0) T hfb (by simp)) (by omega)) fun v H2 hv => ?_
      obtain ⟨rfl, e⟩ := hv; obtain rfl := e.symm
      refine TV.bool ?_
      cases hb : bareL [c] with
      | true =>
        refine SW.cons <| ST.ret <| EW.binop <| EW.binop <| EW.toN page rfl (by omega) <| EW.name rfl ⟨fr + p, rfl, EW.name rfl <| PW2.app ?_ (sz2 (by repeat (first | exact lg1 | exact lg2 | exact lg3 | exact lg4 | apply lga | apply lgt | apply lgd | assumption)) (by repeat (first | exact lg1 | exact lg2 | exact lg3 | exact lg4 | apply lga | apply lgt | apply lgd | assumption)) (by decide))⟩
        refine EW.fromN page rfl (by omega) <| EW.name rfl ⟨fr + p, rfl, PW2.app ?_ (sz2 (by repeat (first | exact lg1 | exact lg2 | exact lg3 | exact lg4 | apply lga | apply lgt | apply lgd | assumption)) (by repeat (first | exact lg1 | exact lg2 | exact lg3 | exact lg4 | apply lga | apply lgt | apply lgd | assumption)) (by decide))⟩
        exact fin (by unfold putL; simp only [hfr]; rw [if_neg h0, if_pos hbn, if_pos hb])
      | false =>
        refine SW.nil ?_
        refine SW.cons <| ST.assign T.there <| EW.binop <| EW.name rfl <| EW.call T.ok glen (.builtin _) <| EWs.cons <| EW.name rfl <| EWs.nil <| CW.lens (by rw [S_len]; omega) ?_
        rw [S_len]
        refine PW2.addN fr fi.2.length ?_
        refine SW.cons <| ST.ret <| EW.binop <| EW.binop <| EW.binop <| EW.binop <| EW.binop <| EW.binop <| EW.toN page rfl (by omega) <| EW.name rfl ⟨fr, rfl, EW.cstr <| PW2.addS _ [39] ?_ ?_⟩
        · exact sz2 (by repeat (first | exact lg1 | exact lg2 | exact lg3 | exact lg4 | apply lga | apply lgt | apply lgd | assumption)) (by repeat (first | exact lg1 | exact lg2 | exact lg3 | exact lg4 | apply lga | apply lgt | apply lgd | assumption)) (by decide)
        refine EW.midN page rfl (by omega) <| EW.name rfl ⟨fr, rfl, EW.name rfl ⟨fr + p, rfl, PW2.app ?_ (sz2 (by repeat (first | exact lg1 | exact lg2 | exact lg3 | exact lg4 | apply lga | apply lgt | apply lgd | assumption)) (by repeat (first | exact lg1 | exact lg2 | exact lg3 | exact lg4 | apply lga | apply lgt | apply lgd | assumption)) (by decide))⟩⟩
        refine EW.name rfl <| PW2.app ?_ (sz2 (by repeat (first | exact lg1 | exact lg2 | exact lg3 | exact lg4 | apply lga | apply lgt | apply lgd | assumption)) (by repeat (first | exact lg1 | exact lg2 | exact lg3 | exact lg4 | apply lga | apply lgt | apply lgd | assumption)) (by decide))
        refine EW.midN page rfl (by omega) <| EW.name rfl ⟨fr + p, rfl, EW.name rfl ⟨fr + fi.2.length, rfl, PW2.app ?_ (sz2 (by repeat (first | exact lg1 | exact lg2 | exact lg3 | exact lg4 | apply lga | apply lgt | apply lgd | assumption)) (by repeat (first | exact lg1 | exact lg2 | exact lg3 | exact lg4 | apply lga | apply lgt | apply lgd | assumption)) (by decide))⟩⟩
        refine EW.cstr <| PW2.addS _ [39] ?_ ?_
        · exact sz2 (by repeat (first | exact lg1 | exact lg2 | exact lg3 | exact lg4 | apply lga | apply lgt | apply lgd | assumption)) (by repeat (first | exact lg1 | exact lg2 | exact lg3 | exact lg4 | apply lga | apply lgt | apply lgd | assumption)) (by decide)
        refine EW.fromN page rfl (by omega) <| EW.name rfl ⟨fr + fi.2.length, rfl, PW2.app ?_ (sz2 (by repeat (first | exact lg1 | exact lg2 | exact lg3 | exact lg4 | apply lga | apply lgt | apply lgd | assumption)) (by repeat (first | exact lg1 | exact lg2 | exact lg3 | exact lg4 | apply lga | apply lgt | apply lgd | assumption)) (by decide))⟩
        exact fin (by unfold putL; simp only [hfr]; rw [if_neg h0, if_pos hbn, if_neg (by rw [hb]; decide)])
end Mine

end
section
open PySem PySem.W PySem.Calls PyProof.Rows
set_option maxRecDepth 100000
namespace Mine

def leftN (l : List Nat) (p : Nat) : List Nat := l.take p ++ l.drop (p + 1)
def innerL (w : Nat) (page l : List Nat) (fr p c : Nat) : List Nat :=
  (page.take (fr + 1 + sumSp w (l.take p))).drop (fr + 1) ++ (page.take (fr + wideL w l - 1)).drop (fr + 1 + sumSp w (l.take p) + (spell w c).length)
def loseL (w : Nat) (fs : List File) (page : List Nat) (i p c : Nat) (fi : File) : List Nat :=
  let fr := frontN w fs i fi
  if bareL fi.2 then if leftN fi.2 p = [] then page.take fr ++ [39, 39] ++ page.drop (fr + 1) else page.take (fr + p) ++ page.drop (fr + p + 1)
  else if bareL (leftN fi.2 p) then page.take fr ++ innerL w page fi.2 fr p c ++ page.drop (fr + wideL w fi.2) else page.take (fr + 1) ++ innerL w page fi.2 fr p c ++ page.drop (fr + wideL w fi.2 - 1)

theorem innerL_len (w : Nat) (page l : List Nat) (fr p c : Nat) : (innerL w page l fr p c).length ≤ 2 * page.length := by
  unfold innerL; rw [Nat.two_mul]; exact lga (lgd (lgt (Nat.le_refl _))) (lgd (lgt (Nat.le_refl _)))

set_option maxHeartbeats 2000000 in
theorem lose_call {B : Wd} {n : Nat} {H : List O} {w kt kf i p c : Nat} {ks fs} {f : Addr} {fi : File} {page : List Nat} {ki : Nat} (T : Top B) (hf : B.mg "_law_lose" = some (.ref f)) (hk : H[kt]? = some (.dict (dictOf (tabD w)))) (FF : Files H kf ks fs) (hs : small fs) (hi : fs[i]? = some fi) (hki : ks[i]? = some ki) (hkk : kt ≠ ki)
    (hp : page.length ≤ 100000) (hc : fi.2[p]? = some c) :
    CW B (n + 5) (.ref f) [.str (S page), .ref kf, .int i, .int p, .ref kt] H fun v H' => v = .str (S (loseL w fs page i p c fi)) ∧ H' = H.set ki (pairO fi.1 (leftN fi.2 p)) := by
  obtain ⟨f', hf', F⟩ := T.lose
  rw [hf] at hf'; cases hf'
  obtain ⟨ff, hff, Ff⟩ := T.fron
  obtain ⟨fb, hfb, Fb⟩ := T.bare
  obtain ⟨fsp, hfsp, Fsp⟩ := T.spel
  obtain ⟨fw, hfw, Fw⟩ := T.wide
  have hil := (List.getElem?_eq_some_iff.mp hi).1
  have hpl := (List.getElem?_eq_some_iff.mp hc).1
  have hkl := FF.len
  have hs1 := hs.1
  have hnm : fi.2.length ≤ 1000 := hs.2 _ (List.mem_of_getElem? hi)
  have hsl : sizeLine = 16777216 := rfl
  have glen : Glob B "len" (.builtin "len") := globB (T.bi _ (by simp)) (by decide) (by rfl)
  have gsum : Glob B "sum" (.builtin "sum") := globB (T.bi _ (by simp)) (by decide) (by rfl)
  have hsp := spell_len w c
  have hll : (leftN fi.2 p).length ≤ 1000 := by unfold leftN; simp only [List.length_append, List.length_take, List.length_drop]; omega
  have hwp : 1 ≤ frontN w fs i fi + wideL w fi.2 := by unfold frontN; split <;> omega
  refine CW.def T.ok T.there F rfl (fun q cd L _ => ?_) (by decide +kernel)
  refine SW.cons <| ST.assign T.there <| EW.cell1 rfl rfl FF hs hi ?_
  refine SW.cons <| ST.assign T.there <| EW.binop <| EW.toN fi.2 rfl (by omega) <| EW.name rfl ⟨p, rfl, EW.fromN fi.2 rfl (by omega) <| EW.binop <| EW.name rfl <| EW.cint <| PW2.addN p 1 ⟨p + 1, rfl, PW2.app ?_ (sz2 (by repeat (first | exact lg1 | exact lg2 | exact lg3 | exact lg4 | apply lga | apply lgt | apply lgd | assumption)) (by repeat (first | exact lg1 | exact lg2 | exact lg3 | exact lg4 | apply lga | apply lgt | apply lgd | assumption)) (by decide))⟩⟩
  rw [show fi.2.take p ++ fi.2.drop (p + 1) = leftN fi.2 p from rfl]
  refine SW.cons <| ST.assign T.there <| EW.call T.ok (.top hff) Ff.callee ?_
  iterate 3 refine EWs.cons (EW.name rfl ?_)
  refine EWs.nil (CW.mono (fron_call T hff hk FF hs hi) fun v H' hv => ?_)
  obtain ⟨rfl, e⟩ := hv; obtain rfl := e.symm
  refine SW.cons <| ST.setItem T.there <| EW.name rfl <| EW.item <| EW.name rfl <| EW.name rfl <| PW2.item FF.l (by omega) (by omega) (v := .ref ki) ?_ <| EW.cint ⟨ki, _, 1, rfl, rfl, FF.at_ i fi ki hi hki, by decide, by simp, by simp; exact (by decide : 2 ≤ sizeLine), ?_⟩
  · rw [Int.toNat_natCast, List.getElem?_map, hki]; rfl
  show FW B (n + 4) _ _ _ (H.set ki (pairO fi.1 (leftN fi.2 p))) _
  have hk' : (H.set ki (pairO fi.1 (leftN fi.2 p)))[kt]? = some (.dict (dictOf (tabD w))) := by rw [List.getElem?_set_ne (Ne.symm hkk)]; exact hk
  generalize hH1 : H.set ki (pairO fi.1 (leftN fi.2 p)) = H1 at *
  have fin : ∀ {l : List Nat}, l = loseL w fs page i p c fi → ∃ u H2 G, (match Fl.ret (V.str (S l)) with | .ret u => u | _ => .none) = u ∧ H1 = H2 ++ G ∧ H.length ≤ H2.length ∧ ((∀ o ∈ H, o.Closed H.length) → ∀ o ∈ H2, o.Closed H2.length) ∧ u.Closed H2.length ∧ (u = .str (S (loseL w fs page i p c fi)) ∧ H2 = H1) := fun {l} hl => by
    subst hH1
    exact ret_set (Q := fun u H2 => u = .str (S (loseL w fs page i p c fi)) ∧ H2 = _) (fun k e => by cases e) (pairO_closed _ _) ⟨[], by simp⟩ ⟨by rw [hl], rfl⟩
  generalize hfr : frontN w fs i fi = fr at *
  refine SW.cons <| ST.ite <| TW.plain <| EW.call T.ok (.top hfb) Fb.callee <| EWs.cons <| EW.name rfl <| EWs.nil <| CW.mono (CW.lift (bare_call (n := 0) T hfb (by omega)) (by omega)) fun v H2 hv => ?_
  obtain ⟨rfl, e⟩ := hv; obtain rfl := e.symm
  refine TV.bool ?_
  cases hbn : bareL fi.2 with
  | true =>
    refine SW.cons <| ST.ret <| EW.ifexp <| TW.compare <| EW.name rfl <| EW.cstr <| PW2.eqs <| TV.bool ?_
    rw [show (Str.ofString "") = S [] from rfl, S_eqnil]
    by_cases h0 : leftN fi.2 p = []
    · rw [decide_eq_true h0]
      refine EW.binop <| EW.binop <| EW.toN page rfl (by omega) <| EW.name rfl ⟨fr, rfl, EW.cstr <| PW2.addS _ [39, 39] ?_ ?_⟩
      · exact sz2 (by repeat (first | exact lg1 | exact lg2 | exact lg3 | exact lg4 | apply lga | apply lgt | apply lgd | assumption)) (by repeat (first | exact lg1 | exact lg2 | exact lg3 | exact lg4 | apply lga | apply lgt | apply lgd | assumption)) (by decide)
      refine EW.fromN page rfl (by omega) <| EW.binop <| EW.name rfl <| EW.cint <| PW2.addN fr 1 ⟨fr + 1, rfl, PW2.app ?_ (sz2 (by repeat (first | exact lg1 | exact lg2 | exact lg3 | exact lg4 | apply lga | apply lgt | apply lgd | assumption)) (by repeat (first | exact lg1 | exact lg2 | exact lg3 | exact lg4 | apply lga | apply lgt | apply lgd | assumption)) (by decide))⟩
      exact fin (by unfold loseL; simp only [hfr]; rw [if_pos hbn, if_pos h0])
    · rw [decide_eq_false h0]
      refine EW.binop <| EW.toN page rfl (by omega) <| EW.binop <| EW.name rfl <| EW.name rfl <| PW2.addN fr p ⟨fr + p, rfl, EW.fromN page rfl (by omega) <| EW.binop <| EW.binop <| EW.name rfl <| EW.name rfl <| PW2.addN fr p <| EW.cint <| PW2.addN (fr + p) 1 ⟨fr + p + 1, rfl, PW2.app ?_ (sz2 (by repeat (first | exact lg1 | exact lg2 | exact lg3 | exact lg4 | apply lga | apply lgt | apply lgd | assumption)) (by repeat (first | exact lg1 | exact lg2 | exact lg3 | exact lg4 | apply lga | apply lgt | apply lgd | assumption)) (by decide))⟩⟩
      exact fin (by unfold loseL; simp only [hfr]; rw [if_pos hbn, if_neg h0])
  | false =>
    refine SW.nil ?_
    have hsum := sumSp_le w (fi.2.take p)
    have hlt : (fi.2.take p).length ≤ 1000 := by rw [List.length_take]; omega
    have hin : (innerL w page fi.2 fr p c).length ≤ 200000 := Nat.le_trans (innerL_len w page fi.2 fr p c) (Nat.mul_le_mul_left 2 hp)
    refine SW.cons <| ST.assign T.there <| EW.gc0 <| EW.binop <| EW.binop <| EW.name rfl <| EW.cint <| PW2.addN fr 1 <| EW.call T.ok gsum (.builtin _) <| EWs.cons <| EW.comp T.there <| EW.toN fi.2 rfl (by omega) <| EW.name rfl ⟨p, rfl, ?_⟩
    refine comp_sum (w := w) (kt := kt) T hfsp Fsp.callee hk' hlt ?_ rfl (fun _ => rfl) rfl (by decide) (by decide) (by decide) (fun _ => rfl) (fun _ => rfl)
    refine EWs.nil <| sum_ints <| PW2.addN (fr + 1) (sumSp w (fi.2.take p)) ⟨⟨_, rfl⟩, fun k e => (by cases e), ?_⟩
    refine SW.cons <| ST.assign T.there <| EW.binop <| EW.name rfl <| EW.call T.ok (.top hfw) Fw.callee <| EWs.cons <| EW.name rfl <| EWs.cons <| EW.name rfl <| EWs.nil <| CW.mono (CW.lift (wide_call (n := 0) T hfw hk' hnm) (by omega)) fun v H2 hv => ?_
    obtain ⟨rfl, e⟩ := hv; obtain rfl := e.symm
    refine PW2.addN fr (wideL w fi.2) ?_
    refine SW.cons <| ST.assign T.there <| EW.binop <| EW.midN page rfl (by omega) <| EW.binop <| EW.name rfl <| EW.cint <| PW2.addN fr 1 ⟨fr + 1, rfl, EW.name rfl ⟨fr + 1 + sumSp w (fi.2.take p), rfl, ?_⟩⟩
    refine EW.midN page rfl (by omega) <| EW.binop <| EW.name rfl <| EW.call T.ok glen (.builtin _) <| EWs.cons <| EW.call T.ok (.top hfsp) Fsp.callee <| EWs.cons <| EW.item <| EW.name rfl <| EW.name rfl <| PW2.itemN fi.2 p c (by omega) hc ?_
    refine EWs.cons <| EW.name rfl <| EWs.nil <| CW.mono (CW.lift (spel_call (n := 0) T hfsp hk') (by omega)) fun v H2 hv => ?_
    obtain ⟨rfl, e⟩ := hv; obtain rfl := e.symm
    refine EWs.nil <| CW.lens (by rw [S_len]; omega) ?_
    rw [S_len]
    refine PW2.addN (fr + 1 + sumSp w (fi.2.take p)) (spell w c).length ⟨fr + 1 + sumSp w (fi.2.take p) + (spell w c).length, rfl, EW.binop <| EW.name rfl <| EW.cint <| PW2.subN (fr + wideL w fi.2) 1 hwp ⟨fr + wideL w fi.2 - 1, rfl, PW2.app ?_ (sz2 (by repeat (first | exact lg1 | exact lg2 | exact lg3 | exact lg4 | apply lga | apply lgt | apply lgd | assumption)) (by repeat (first | exact lg1 | exact lg2 | exact lg3 | exact lg4 | apply lga | apply lgt | apply lgd | assumption)) (by decide))⟩⟩
    rw [show (page.take (fr + 1 + sumSp w (fi.2.take p))).drop (fr + 1) ++ (page.take (fr + wideL w fi.2 - 1)).drop (fr + 1 + sumSp w (fi.2.take p) + (spell w c).length) = innerL w page fi.2 fr p c from rfl]
    refine SW.cons <| ST.ret <| EW.ifexp <| TW.plain <| EW.call T.ok (.top hfb) Fb.callee <| EWs.cons <| EW.name rfl <| EWs.nil <| CW.mono (CW.lift (bare_call (n := 0) T hfb (by omega)) (by omega)) fun v H2 hv => ?_
    obtain ⟨rfl, e⟩ := hv; obtain rfl := e.symm
    refine TV.bool ?_
    cases hbl : bareL (leftN fi.2 p) with
    | true =>
      refine EW.binop <| EW.binop <| EW.toN page rfl (by omega) <| EW.name rfl ⟨fr, rfl, EW.name rfl <| PW2.app ?_ (sz2 (by repeat (first | exact lg1 | exact lg2 | exact lg3 | exact lg4 | apply lga | apply lgt | apply lgd | assumption)) (by repeat (first | exact lg1 | exact lg2 | exact lg3 | exact lg4 | apply lga | apply lgt | apply lgd | assumption)) (by decide))⟩
      refine EW.fromN page rfl (by omega) <| EW.name rfl ⟨fr + wideL w fi.2, rfl, PW2.app ?_ (sz2 (by repeat (first | exact lg1 | exact lg2 | exact lg3 | exact lg4 | apply lga | apply lgt | apply lgd | assumption)) (by repeat (first | exact lg1 | exact lg2 | exact lg3 | exact lg4 | apply lga | apply lgt | apply lgd | assumption)) (by decide))⟩
      exact fin (by unfold loseL; simp only [hfr]; rw [if_neg (by rw [hbn]; decide), if_pos hbl])
    | false =>
      refine EW.binop <| EW.binop <| EW.toN page rfl (by omega) <| EW.binop <| EW.name rfl <| EW.cint <| PW2.addN fr 1 ⟨fr + 1, rfl, EW.name rfl <| PW2.app ?_ (sz2 (by repeat (first | exact lg1 | exact lg2 | exact lg3 | exact lg4 | apply lga | apply lgt | apply lgd | assumption)) (by repeat (first | exact lg1 | exact lg2 | exact lg3 | exact lg4 | apply lga | apply lgt | apply lgd | assumption)) (by decide))⟩
      refine EW.fromN page rfl (by omega) <| EW.binop <| EW.name rfl <| EW.cint <| PW2.subN (fr + wideL w fi.2) 1 hwp ⟨fr + wideL w fi.2 - 1, rfl, PW2.app ?_ (sz2 (by repeat (first | exact lg1 | exact lg2 | exact lg3 | exact lg4 | apply lga | apply lgt | apply lgd | assumption)) (by repeat (first | exact lg1 | exact lg2 | exact lg3 | exact lg4 | apply lga | apply lgt | apply lgd | assumption)) (by decide))⟩
      exact fin (by unfold loseL; simp only [hfr]; rw [if_neg (by rw [hbn]; decide), if_neg (by rw [hbl]; decide)])
end Mine

end
section
open PySem PySem.W PySem.Calls PyProof.Rows
set_option maxRecDepth 100000
namespace Mine

/-- how the ledger may go on -/
def Keep (H H' : List O) : Prop := H.length ≤ H'.length ∧ ((∀ o ∈ H, o.Closed H.length) → ∀ o ∈ H', o.Closed H'.length)

/-- a call's end also tells that its ledger is closed -/
theorem CW.closed {B : Wd} {n : Nat} {f : Value} {vs : List V} {H : List O} {Q : V → List O → Prop} (h : CW B n f vs H fun v H' => (v.Closed H'.length ∧ Keep H H') → Q v H') : CW B n f vs H Q := fun A E s ρ vs' QQ hA S hv kk =>
  h A E s ρ vs' QQ hA S hv fun v v' H' ρ' s' q r S' st' => kk v v' H' ρ' s' (q ⟨fun k e => by
    subst e
    obtain ⟨a, e, _⟩ := r
    rw [← S'.len]; exact (List.getElem?_eq_some_iff.mp e).1, ⟨by
    obtain ⟨⟨m, e, _⟩, _⟩ := st'
    rw [← S.len, ← S'.len, e, List.length_append]; omega, fun _ => S'.closed⟩⟩) r S' st'

theorem ret_all {H H' : List O} {Q : V → List O → Prop} {v : V} (hv : v.Closed H'.length) (hk : Keep H H') (q : Q v H') :
    ∃ u H2 G, (match Fl.ret v with | .ret u => u | _ => .none) = u ∧ H' = H2 ++ G ∧ H.length ≤ H2.length ∧ ((∀ o ∈ H, o.Closed H.length) → ∀ o ∈ H2, o.Closed H2.length) ∧ u.Closed H2.length ∧ Q u H2 :=
  ⟨v, H', [], rfl, by simp, hk.1, hk.2, hv, q⟩

/-- one deed, in plain -/
inductive DeedR (w : Nat) (fs : List File) (page : List Nat) : List File → List Nat → Prop
  | come (i m : Nat) : fs.length < 4 → i ≤ fs.length → m < 65536 → DeedR w fs page (fs.take i ++ (m, []) :: fs.drop i) (comeL w fs page i m)
  | go (i : Nat) : 1 < fs.length → i < fs.length → DeedR w fs page (fs.eraseIdx i) (goL w fs page i)
  | change (i : Nat) (f : File) : i + 1 < fs.length → fs[i + 1]? = some f → DeedR w fs page ((fs.eraseIdx (i + 1)).take i ++ f :: (fs.eraseIdx (i + 1)).drop i) (chanL w fs page i)
  | lose (i p c : Nat) (f : File) : fs[i]? = some f → f.2[p]? = some c → DeedR w fs page (fs.set i (f.1, leftN f.2 p)) (loseL w fs page i p c f)
  | turn (i b : Nat) (f : File) : fs[i]? = some f → b < 16 → DeedR w fs page (fs.set i (newM f.1 b, f.2)) (turnL w fs page i b f)
  | put (i p c : Nat) (f : File) : fs[i]? = some f → p ≤ f.2.length → c < 1114112 → DeedR w fs page (fs.set i (f.1, f.2.take p ++ [c] ++ f.2.drop p)) (putL w fs page i p c f)

theorem Files.lt {H : List O} {kf ks fs} (F : Files H kf ks fs) : ∀ k ∈ ks, k < H.length := fun k hk => by
  obtain ⟨i, hi, rfl⟩ := List.getElem_of_mem hk
  have := F.len
  exact (List.getElem?_eq_some_iff.mp (F.at_ i (fs[i]'(by omega)) ks[i] (List.getElem?_eq_getElem _) (List.getElem?_eq_getElem _))).1
theorem Files.kf_lt {H : List O} {kf ks fs} (F : Files H kf ks fs) : kf < H.length := (List.getElem?_eq_some_iff.mp F.l).1

theorem Files.set {H : List O} {kf ks fs} (F : Files H kf ks fs) {i ki m : Nat} {l : List Nat} (hki : ks[i]? = some ki) : Files (H.set ki (pairO m l)) kf ks (fs.set i (m, l)) := by
  have hm : ki ∈ ks := List.mem_of_getElem? hki
  have hne : ki ≠ kf := fun e => F.out (e ▸ hm)
  refine ⟨by rw [List.getElem?_set_ne hne]; exact F.l, by rw [List.length_set]; exact F.len, F.nodup, F.out, fun j f k hf hk => ?_⟩
  by_cases hj : j = i
  · subst hj
    rw [hki] at hk; cases hk
    have hjl : j < fs.length := by
      have := (List.getElem?_eq_some_iff.mp hki).1
      have := F.len; omega
    rw [List.getElem?_set_self hjl] at hf
    cases hf
    rw [List.getElem?_set_self (F.lt _ hm)]; rfl
  · rw [List.getElem?_set_ne (Ne.symm hj)] at hf
    have hk' : k ≠ ki := fun e => by
      subst e
      obtain ⟨h1, e1⟩ := List.getElem?_eq_some_iff.mp hk
      obtain ⟨h2, e2⟩ := List.getElem?_eq_some_iff.mp hki
      exact hj (nodup_inj F.nodup h1 h2 (e1.trans e2.symm))
    rw [List.getElem?_set_ne (Ne.symm hk')]
    exact F.at_ j f k hf hk

/-- the list of files is laid anew: each place keeps its file -/
theorem Files.relay {H : List O} {kf ks fs} (F : Files H kf ks fs) {ks' : List Nat} {fs' : List File} (G : List O) (hl : ks'.length = fs'.length) (hn : ks'.Nodup) (ho : kf ∉ ks')
    (hat : ∀ (i : Nat) f k, fs'[i]? = some f → ks'[i]? = some k → (H ++ G)[k]? = some (.list [.int (f.1 : Int), .str (S f.2)])) : Files (H.set kf (.list (ks'.map V.ref)) ++ G) kf ks' fs' := by
  have hkf := F.kf_lt
  refine ⟨by rw [List.getElem?_append_left (by rw [List.length_set]; exact hkf), List.getElem?_set_self hkf], hl, hn, ho, fun i f k hf hk => ?_⟩
  have hne : k ≠ kf := fun e => ho (e ▸ List.mem_of_getElem? hk)
  rw [← List.set_append_left _ _ hkf, List.getElem?_set_ne (Ne.symm hne)]
  exact hat i f k hf hk

inductive All2 {α β : Type} (R : α → β → Prop) : List α → List β → Prop
  | nil : All2 R [] []
  | cons {a b l m} : R a b → All2 R l m → All2 R (a :: l) (b :: m)
section
variable {α β : Type} {R : α → β → Prop}
theorem All2.length {l : List α} {m : List β} (h : All2 R l m) : l.length = m.length := by
  induction h with
  | nil => rfl
  | cons _ _ ih => simp [ih]
theorem All2.get {l : List α} {m : List β} (h : All2 R l m) : ∀ {i : Nat} {a b}, l[i]? = some a → m[i]? = some b → R a b := by
  induction h with
  | nil => intro i a b e; simp at e
  | cons h _ ih =>
    intro i a b e1 e2
    cases i with
    | zero => simp at e1 e2; subst e1 e2; exact h
    | succ i => exact ih (by simpa using e1) (by simpa using e2)
theorem All2.of : ∀ {l : List α} {m : List β}, l.length = m.length → (∀ (i : Nat) a b, l[i]? = some a → m[i]? = some b → R a b) → All2 R l m
  | [], [], _, _ => .nil
  | a :: l, b :: m, hl, h => .cons (h 0 a b rfl rfl) (All2.of (by simpa using hl) fun i x y e1 e2 => h (i + 1) x y (by simpa using e1) (by simpa using e2))
  | [], _ :: _, hl, _ => by simp at hl
  | _ :: _, [], hl, _ => by simp at hl
theorem All2.take {l : List α} {m : List β} (h : All2 R l m) : ∀ n, All2 R (l.take n) (m.take n) := by
  induction h with
  | nil => intro n; simp; exact .nil
  | cons h _ ih => intro n; cases n with
    | zero => exact .nil
    | succ n => exact .cons h (ih n)
theorem All2.drop {l : List α} {m : List β} (h : All2 R l m) : ∀ n, All2 R (l.drop n) (m.drop n) := by
  induction h with
  | nil => intro n; simp; exact .nil
  | cons h k ih => intro n; cases n with
    | zero => exact .cons h k
    | succ n => exact ih n
theorem All2.app {l l' : List α} {m m' : List β} (h : All2 R l m) (k : All2 R l' m') : All2 R (l ++ l') (m ++ m') := by
  induction h with
  | nil => exact k
  | cons h _ ih => exact .cons h ih
theorem All2.erase {l : List α} {m : List β} (h : All2 R l m) : ∀ n, All2 R (l.eraseIdx n) (m.eraseIdx n) := by
  induction h with
  | nil => intro n; simp; exact .nil
  | cons h k ih => intro n; cases n with
    | zero => exact k
    | succ n => exact .cons h (ih n)
theorem All2.imp {R' : α → β → Prop} {l : List α} {m : List β} (h : All2 R l m) (hi : ∀ a b, R a b → R' a b) : All2 R' l m := by
  induction h with
  | nil => exact .nil
  | cons h _ ih => exact .cons (hi _ _ h) ih
end

def IsFile (H : List O) (k : Nat) (f : File) : Prop := H[k]? = some (.list [.int (f.1 : Int), .str (S f.2)])
theorem Files.all {H : List O} {kf ks fs} (F : Files H kf ks fs) : All2 (IsFile H) ks fs := All2.of F.len fun i k f hk hf => F.at_ i f k hf hk

theorem Files.lay {H : List O} {kf ks fs} (F : Files H kf ks fs) {ks' : List Nat} {fs' : List File} (G : List O) (hn : ks'.Nodup) (ho : kf ∉ ks') (h : All2 (IsFile (H ++ G)) ks' fs') : Files (H.set kf (.list (ks'.map V.ref)) ++ G) kf ks' fs' :=
  F.relay G h.length hn ho fun i f k hf hk => h.get hk hf

theorem Files.go {H : List O} {kf ks fs} (F : Files H kf ks fs) (i : Nat) : Files (H.set kf (.list ((ks.eraseIdx i).map V.ref))) kf (ks.eraseIdx i) (fs.eraseIdx i) := by
  have := F.lay [] (ks' := ks.eraseIdx i) (fs' := fs.eraseIdx i) ((List.eraseIdx_sublist ks i).nodup F.nodup) (fun h => F.out (List.mem_of_mem_eraseIdx h)) (by rw [List.append_nil]; exact F.all.erase i)
  rwa [List.append_nil] at this

theorem nodup_mid {α : Type} {l : List α} {i : Nat} {k : α} (hn : l.Nodup) (hk : k ∉ l) : (l.take i ++ k :: l.drop i).Nodup := by
  have h : (l.take i ++ k :: l.drop i).Perm (k :: l) := by
    have h1 : (l.take i ++ k :: l.drop i).Perm (k :: (l.take i ++ l.drop i)) := List.perm_middle
    rwa [List.take_append_drop] at h1
  exact h.nodup_iff.mpr (List.nodup_cons.mpr ⟨hk, hn⟩)

theorem Files.come {H : List O} {kf ks fs} (F : Files H kf ks fs) (i m : Nat) : Files (H.set kf (.list ((ks.take i ++ H.length :: ks.drop i).map V.ref)) ++ [pairO m []]) kf (ks.take i ++ H.length :: ks.drop i) (fs.take i ++ (m, []) :: fs.drop i) := by
  have hall : All2 (IsFile (H ++ [pairO m []])) ks fs := F.all.imp fun k f h => getElem?_app h
  refine F.lay [pairO m []] (nodup_mid F.nodup fun h => absurd (F.lt _ h) (Nat.lt_irrefl _)) (fun h => ?_) ((hall.take i).app (.cons ?_ (hall.drop i)))
  · rcases List.mem_append.mp h with h | h
    · exact F.out (List.mem_of_mem_take h)
    · rcases List.mem_cons.mp h with h | h
      · exact absurd (h ▸ F.kf_lt) (Nat.lt_irrefl _)
      · exact F.out (List.mem_of_mem_drop h)
  · show (H ++ [pairO m []])[H.length]? = _
    rw [get_last]; rfl

theorem Files.change {H : List O} {kf ks fs} (F : Files H kf ks fs) {i k1 : Nat} {f : File} (hk : ks[i + 1]? = some k1) (hf : fs[i + 1]? = some f) :
    Files (H.set kf (.list ((swapK ks i k1).map V.ref))) kf (swapK ks i k1) ((fs.eraseIdx (i + 1)).take i ++ f :: (fs.eraseIdx (i + 1)).drop i) := by
  have hm : k1 ∈ ks := List.mem_of_getElem? hk
  have hne : k1 ∉ ks.eraseIdx (i + 1) := fun h => by
    obtain ⟨h1, e1⟩ := List.getElem?_eq_some_iff.mp hk
    have hp : (ks.take (i + 1) ++ k1 :: ks.drop (i + 2)).Nodup := by
      have h2 : ks.take (i + 1) ++ k1 :: ks.drop (i + 2) = ks := by
        conv => rhs; rw [← List.take_append_drop (i + 1) ks, List.drop_eq_getElem_cons h1, e1]
      rw [h2]; exact F.nodup
    have hq : (k1 :: (ks.take (i + 1) ++ ks.drop (i + 2))).Nodup := List.perm_middle.nodup_iff.mp hp
    rw [List.eraseIdx_eq_take_drop_succ] at h
    exact (List.nodup_cons.mp hq).1 h
  have := F.lay [] (ks' := swapK ks i k1) (fs' := (fs.eraseIdx (i + 1)).take i ++ f :: (fs.eraseIdx (i + 1)).drop i) (nodup_mid ((List.eraseIdx_sublist ks (i + 1)).nodup F.nodup) hne) (fun h => ?_) ?_
  · rwa [List.append_nil] at this
  · unfold swapK at h
    rcases List.mem_append.mp h with h | h
    · exact F.out (List.mem_of_mem_eraseIdx (List.mem_of_mem_take h))
    · rcases List.mem_cons.mp h with h | h
      · exact F.out (h ▸ hm)
      · exact F.out (List.mem_of_mem_eraseIdx (List.mem_of_mem_drop h))
  · rw [List.append_nil]
    exact ((F.all.erase (i + 1)).take i).app (.cons (F.all.get hk hf) ((F.all.erase (i + 1)).drop i))
end Mine

end
section
open PySem PySem.W PySem.Calls PyProof.Rows
set_option maxRecDepth 100000
namespace Mine

section
variable {B : Wd} {n : Nat} {H : List O} {Q : V → List O → Prop}
theorem PW2.modI {x y : Int} (b : Nat) (hb : 0 < b) (q : ∀ i : Nat, i < b → Q (.int (i : Int)) H) (hy : y = (b : Int) := by rfl) : PW2 B n (binaryOp .Mod) (.int x) (.int y) H Q := by
  subst hy
  refine PW2.fmod (by omega) ?_
  have h0 : 0 ≤ x.fmod b := Int.fmod_nonneg_of_pos _ (by omega)
  have h1 : x.fmod b < b := Int.fmod_lt_of_pos _ (by omega)
  have := q (x.fmod b).toNat (by omega)
  rwa [Int.toNat_of_nonneg h0] at this
theorem PW2.divI {x y : Int} (b : Nat) (hb : 0 < b) (hs : b < 1073741824) (q : ∀ z : Int, Q (.int z) H) (hy : y = (b : Int) := by rfl) : PW2 B n (binaryOp .FloorDiv) (.int x) (.int y) H Q := by
  subst hy
  exact PW2.fdiv (by omega) (by omega) (q _)
end

section
variable {B : Wd} {n : Nat} {env : Env} {loc : Loc} {H : List O} {Q : Bool → List O → Prop}
theorem TW.mono {e : Expr} {Q' : Bool → List O → Prop} (h : TW B n env loc e H Q) (hq : ∀ b H', Q b H' → Q' b H') : TW B n env loc e H Q' :=
  fun A E s ρ QQ hA S L k => h A E s ρ QQ hA S L fun b H' ρ' s' q => k b H' ρ' s' (hq _ _ q)
theorem TW.andp {a b : Expr} {pos : Pos} (x y : Bool) (h1 : TW B n env loc a H fun v H1 => v = x ∧ H1 = H) (h2 : TW B n env loc b H fun v H1 => v = y ∧ H1 = H) (q : Q (x && y) H) : TW B n env loc (.BoolOp .And [a, b] pos) H Q := by
  refine TW.and2 (TW.mono h1 fun v H1 hv => ?_)
  obtain ⟨rfl, rfl⟩ := hv
  cases v with
  | true => exact TW.mono h2 fun u H2 hu => by obtain ⟨rfl, rfl⟩ := hu; exact q
  | false => exact q
theorem TW.orp {a b : Expr} {pos : Pos} (x y : Bool) (h1 : TW B n env loc a H fun v H1 => v = x ∧ H1 = H) (h2 : TW B n env loc b H fun v H1 => v = y ∧ H1 = H) (q : Q (x || y) H) : TW B n env loc (.BoolOp .Or [a, b] pos) H Q := by
  refine TW.or2 (TW.mono h1 fun v H1 hv => ?_)
  obtain ⟨rfl, rfl⟩ := hv
  cases v with
  | false => exact TW.mono h2 fun u H2 hu => by obtain ⟨rfl, rfl⟩ := hu; exact q
  | true => exact q
end

def signLits : List Nat := (Str.ofString "'%&<>\"\r\n\t a?-\\#;").cps.toList
theorem signOf_lt (x : Int) : signOf x < 1114112 := by
  have h1 : x.fmod 1112064 < 1112064 := Int.fmod_lt_of_pos _ (by decide)
  have h0 : 0 ≤ x.fmod 1112064 := Int.fmod_nonneg_of_pos _ (by decide)
  unfold signOf; split <;> omega

def okFs (fs : List File) : Prop := 1 ≤ fs.length ∧ fs.length ≤ 4 ∧ ∀ f ∈ fs, f.1 < 65536 ∧ f.2.length ≤ 900

theorem newM_lt {m b : Nat} (hm : m < 65536) (hb : b < 16) : newM m b < 65536 := by
  unfold newM
  split
  · exact Nat.lt_of_le_of_lt (Nat.sub_le _ _) hm
  · rename_i h
    -- the bit is not set: m + 2^b stays below 2^16
    have h2 : m / 2 ^ b % 2 = 0 := by omega
    have hlt : m / 2 ^ b < 2 ^ (16 - b) := by
      rw [Nat.div_lt_iff_lt_mul (Nat.pow_pos (by decide)), ← Nat.pow_add, show 16 - b + b = 16 by omega]; exact hm
    have hd : m / 2 ^ b + 1 < 2 ^ (16 - b) ∨ m / 2 ^ b + 1 = 2 ^ (16 - b) := by omega
    have hev : 2 ^ (16 - b) % 2 = 0 := by
      rw [show 16 - b = (15 - b) + 1 by omega, Nat.pow_succ]; omega
    have hd' : m / 2 ^ b + 1 < 2 ^ (16 - b) := by
      rcases hd with h | h
      · exact h
      · omega
    have h3 : m < 2 ^ b * (m / 2 ^ b + 1) := Nat.lt_mul_div_succ m (Nat.pow_pos (by decide))
    have h4 : 2 ^ b * (m / 2 ^ b + 1) + 2 ^ b = 2 ^ b * (m / 2 ^ b + 2) := by rw [Nat.mul_add, Nat.mul_add]; omega
    have h5 : 2 ^ b * (m / 2 ^ b + 2) ≤ 2 ^ b * 2 ^ (16 - b) := Nat.mul_le_mul_left _ (by omega)
    rw [← Nat.pow_add, show b + (16 - b) = 16 by omega] at h5
    have : (2 : Nat) ^ 16 = 65536 := rfl
    omega

set_option maxHeartbeats 4000000 in
theorem deed_call {B : Wd} {n : Nat} {H : List O} {w kt kf : Nat} {x : Int} {ks fs} {f : Addr} {page : List Nat} (T : Top B) (hf : B.mg "_law_deed" = some (.ref f)) (hk : H[kt]? = some (.dict (dictOf (tabD w)))) (FF : Files H kf ks fs) (ho : okFs fs) (hp : page.length ≤ 100000) :
    CW B (n + 6) (.ref f) [.str (S page), .ref kf, .int x, .ref kt] H fun v H' => ∃ fs' page' ks', v = .str (S page') ∧ DeedR w fs page fs' page' ∧ Files H' kf ks' fs' ∧ ∀ k o, k ≠ kf → k ∉ ks → H[k]? = some o → H'[k]? = some o := by
  obtain ⟨f', hf', F⟩ := T.deed
  rw [hf] at hf'; cases hf'
  obtain ⟨h1, h4, hall⟩ := ho
  have hs : small fs := ⟨by omega, fun g hg => by have := (hall g hg).2; omega⟩
  have hkl := FF.len
  have glen : Glob B "len" (.builtin "len") := globB (T.bi _ (by simp)) (by decide) (by rfl)
  have hktf : kt ≠ kf := fun e => by have := FF.l; rw [← e, hk] at this; cases this
  have hkts : ∀ k ∈ ks, kt ≠ k := fun k hm e => by
    obtain ⟨i, hi, rfl⟩ := List.getElem_of_mem hm
    have := FF.at_ i (fs[i]'(by omega)) ks[i] (List.getElem?_eq_getElem _) (List.getElem?_eq_getElem _)
    rw [← e, hk] at this; cases this
  have hktl : kt < H.length := (List.getElem?_eq_some_iff.mp hk).1
  obtain ⟨fc, hfc, Fc⟩ := T.come
  obtain ⟨fg, hfg, Fg⟩ := T.go
  obtain ⟨fh, hfh, Fh⟩ := T.chan
  obtain ⟨fl, hfl, Fl'⟩ := T.lose
  obtain ⟨ft, hft, Ft⟩ := T.turn
  obtain ⟨fp, hfp, Fp⟩ := T.put
  obtain ⟨fsg, hfsg, Fsg⟩ := T.sign
  refine CW.def T.ok T.there F rfl (fun q cd L _ => ?_) (by decide +kernel)
  refine SW.cons <| ST.assign T.there <| EW.call T.ok glen (.builtin _) <| EWs.cons <| EW.name rfl <| EWs.nil <| CW.lenl FF.l (by rw [List.length_map]; omega) ?_
  rw [List.length_map, hkl]
  refine SW.cons <| ST.assign T.there <| EW.binop <| EW.name rfl <| EW.cint <| PW2.divI 6 (by decide) (by decide) fun z => ?_
  refine SW.cons <| ST.assign T.there <| EW.binop <| EW.name rfl <| EW.name rfl <| PW2.modI fs.length (by omega) fun i hi => ?_
  refine SW.cons <| ST.assign T.there <| EW.binop <| EW.name rfl <| EW.name rfl <| PW2.divI fs.length (by omega) (by omega) fun y => ?_
  have hfi : fs[i]? = some fs[i] := List.getElem?_eq_getElem hi
  have hki : ks[i]? = some (ks[i]'(by omega)) := List.getElem?_eq_getElem _
  have hkin : ks[i]'(by omega) ∈ ks := List.getElem_mem _
  obtain ⟨hm16, hnl⟩ := hall fs[i] (List.getElem_mem _)
  generalize hfi' : fs[i] = fi at *
  generalize hki' : ks[i]'(by omega) = ki at *
  refine SW.cons <| ST.assign T.there <| EW.cell1 rfl rfl FF hs hfi ?_
  refine SW.cons <| ST.assign T.there <| EW.binop <| EW.name rfl <| EW.cint <| PW2.modI 6 (by decide) fun d hd => ?_
  have hset : ∀ (o : O) (k : Nat) (o' : O), k ≠ kf → k ∉ ks → H[k]? = some o' → (H.set ki o)[k]? = some o' := fun o k o' _ h e => by rw [List.getElem?_set_ne (show ki ≠ k from fun q => h (q ▸ hkin))]; exact e
  have hsetf : ∀ (o : O) (k : Nat) (o' : O), k ≠ kf → k ∉ ks → H[k]? = some o' → (H.set kf o)[k]? = some o' := fun o k o' h _ e => by rw [List.getElem?_set_ne (Ne.symm h)]; exact e
  -- come
  refine SW.cons <| ST.ite <| TW.andp (d == 3) (decide (fs.length < 4)) (TW.compare <| EW.name rfl <| EW.cint <| PW2.eqN d 3 <| TV.bool ⟨rfl, rfl⟩) (TW.compare <| EW.name rfl <| EW.cint <| PW2.ltN fs.length 4 <| TV.bool ⟨rfl, rfl⟩) ?_
  by_cases c1 : (d == 3 && decide (fs.length < 4)) = true
  · rw [c1]
    have hl4 : fs.length < 4 := by simp at c1; exact c1.2
    refine SW.cons <| ST.ret <| EW.call T.ok (.top hfc) Fc.callee <| EWs.cons <| EW.name rfl <| EWs.cons <| EW.name rfl <| EWs.cons <| EW.binop <| EW.name rfl <| EW.binop <| EW.name rfl <| EW.cint <| PW2.addN fs.length 1 <| PW2.modI (fs.length + 1) (by omega) fun j hj => ?_
    refine EWs.cons <| EW.binop <| EW.binop <| EW.cint <| EW.binop <| EW.cint <| EW.binop <| EW.name rfl <| EW.binop <| EW.name rfl <| EW.cint <| PW2.addN fs.length 1 <| PW2.divI (fs.length + 1) (by omega) (by omega) fun z2 => PW2.mul (IntMulOk.of_left (by decide)) <| PW2.add <| EW.cint <| PW2.modI 65536 (by decide) fun m hm => ?_
    refine EWs.cons <| EW.name rfl <| EWs.nil <| CW.closed <| CW.mono (CW.lift (come_call (n := 0) T hfc hk FF hs (by omega) hm hp) (by omega)) fun v H' hv hcl => ret_all hcl.1 hcl.2 ?_
    obtain ⟨rfl, rfl⟩ := hv
    exact ⟨_, _, _, rfl, .come j m hl4 (by omega) hm, FF.come j m, fun k o h1 h2 e => getElem?_app (hsetf _ k o h1 h2 e)⟩
  rw [Bool.not_eq_true] at c1
  rw [c1]
  refine SW.nil ?_
  -- go
  refine SW.cons <| ST.ite <| TW.andp (d == 4) (decide (1 < fs.length)) (TW.compare <| EW.name rfl <| EW.cint <| PW2.eqN d 4 <| TV.bool ⟨rfl, rfl⟩) (TW.compare <| EW.name rfl <| EW.cint <| PW2.gtN fs.length 1 <| TV.bool ⟨rfl, rfl⟩) ?_
  by_cases c2 : (d == 4 && decide (1 < fs.length)) = true
  · rw [c2]
    have hl1 : 1 < fs.length := by simp at c2; exact c2.2
    refine SW.cons <| ST.ret <| EW.call T.ok (.top hfg) Fg.callee <| EWs.cons <| EW.name rfl <| EWs.cons <| EW.name rfl <| EWs.cons <| EW.name rfl <| EWs.cons <| EW.name rfl <| EWs.nil <| CW.closed <| CW.mono (CW.lift (go_call (n := 0) T hfg hk FF hs hi hl1 hp) (by omega)) fun v H' hv hcl => ret_all hcl.1 hcl.2 ?_
    obtain ⟨rfl, rfl⟩ := hv
    exact ⟨_, _, _, rfl, .go i hl1 hi, FF.go i, hsetf _⟩
  rw [Bool.not_eq_true] at c2
  rw [c2]
  refine SW.nil ?_
  -- change
  refine SW.cons <| ST.ite <| TW.andp (d == 5) (decide (1 < fs.length)) (TW.compare <| EW.name rfl <| EW.cint <| PW2.eqN d 5 <| TV.bool ⟨rfl, rfl⟩) (TW.compare <| EW.name rfl <| EW.cint <| PW2.gtN fs.length 1 <| TV.bool ⟨rfl, rfl⟩) ?_
  by_cases c3 : (d == 5 && decide (1 < fs.length)) = true
  · rw [c3]
    have hl1 : 1 < fs.length := by simp at c3; exact c3.2
    refine SW.cons <| ST.ret <| EW.call T.ok (.top hfh) Fh.callee <| EWs.cons <| EW.name rfl <| EWs.cons <| EW.name rfl <| EWs.cons <| EW.binop <| EW.name rfl <| EW.binop <| EW.name rfl <| EW.cint <| PW2.subN fs.length 1 h1 <| PW2.modI (fs.length - 1) (by omega) fun j hj => ?_
    have hj1 : fs[j + 1]? = some (fs[j + 1]'(by omega)) := List.getElem?_eq_getElem _
    have hj2 : ks[j + 1]? = some (ks[j + 1]'(by omega)) := List.getElem?_eq_getElem _
    refine EWs.cons <| EW.name rfl <| EWs.nil <| CW.closed <| CW.mono (CW.lift (chan_call (n := 0) T hfh hk FF hs (by omega) hj2 hp) (by omega)) fun v H' hv hcl => ret_all hcl.1 hcl.2 ?_
    obtain ⟨rfl, rfl⟩ := hv
    exact ⟨_, _, _, rfl, .change j _ (by omega) hj1, FF.change hj2 hj1, hsetf _⟩
  rw [Bool.not_eq_true] at c3
  rw [c3]
  refine SW.nil ?_
  -- lose
  refine SW.cons <| ST.ite <| TW.andp (d == 2) (decide (fi.2 ≠ [])) (TW.compare <| EW.name rfl <| EW.cint <| PW2.eqN d 2 <| TV.bool ⟨rfl, rfl⟩) (TW.compare <| EW.name rfl <| EW.cstr <| PW2.nes <| TV.bool ⟨S_ne _, rfl⟩) ?_
  by_cases c4 : (d == 2 && decide (fi.2 ≠ [])) = true
  · rw [c4]
    have hne : fi.2 ≠ [] := by simp at c4; exact c4.2
    have hpos : 0 < fi.2.length := List.length_pos_iff.mpr hne
    refine SW.cons <| ST.ret <| EW.call T.ok (.top hfl) Fl'.callee <| EWs.cons <| EW.name rfl <| EWs.cons <| EW.name rfl <| EWs.cons <| EW.name rfl <| EWs.cons <| EW.binop <| EW.name rfl <| EW.call T.ok glen (.builtin _) <| EWs.cons <| EW.name rfl <| EWs.nil <| CW.lens (by rw [S_len]; omega) ?_
    rw [S_len]
    refine PW2.modI fi.2.length hpos fun p hpp => ?_
    have hc : fi.2[p]? = some fi.2[p] := List.getElem?_eq_getElem hpp
    refine EWs.cons <| EW.name rfl <| EWs.nil <| CW.closed <| CW.mono (CW.lift (lose_call (n := 0) T hfl hk FF hs hfi hki (hkts ki hkin) hp hc) (by omega)) fun v H' hv hcl => ret_all hcl.1 hcl.2 ?_
    obtain ⟨rfl, rfl⟩ := hv
    exact ⟨_, _, _, rfl, .lose i p _ fi hfi hc, FF.set hki, hset _⟩
  rw [Bool.not_eq_true] at c4
  rw [c4]
  refine SW.nil ?_
  -- turn
  refine SW.cons <| ST.ite <| TW.orp (d == 0) (d == 3) (TW.compare <| EW.name rfl <| EW.cint <| PW2.eqN d 0 <| TV.bool ⟨rfl, rfl⟩) (TW.compare <| EW.name rfl <| EW.cint <| PW2.eqN d 3 <| TV.bool ⟨rfl, rfl⟩) ?_
  cases c5 : (d == 0 || d == 3) with
  | true =>
    refine SW.cons <| ST.ret <| EW.call T.ok (.top hft) Ft.callee <| EWs.cons <| EW.name rfl <| EWs.cons <| EW.name rfl <| EWs.cons <| EW.name rfl <| EWs.cons <| EW.binop <| EW.name rfl <| EW.cint <| PW2.modI 16 (by decide) fun b hb => ?_
    refine EWs.cons <| EW.name rfl <| EWs.nil <| CW.closed <| CW.mono (CW.lift (turn_call (n := 0) T hft hk FF hs hfi hki hp hb hm16 (newM_lt hm16 hb)) (by omega)) fun v H' hv hcl => ret_all hcl.1 hcl.2 ?_
    obtain ⟨rfl, rfl⟩ := hv
    exact ⟨_, _, _, rfl, .turn i b fi hfi hb, FF.set hki, hset _⟩
  | false =>
    refine SW.nil ?_
    -- put
    refine SW.cons <| ST.assign T.there <| EW.binop <| EW.name rfl <| EW.binop <| EW.call T.ok glen (.builtin _) <| EWs.cons <| EW.name rfl <| EWs.nil <| CW.lens (by rw [S_len]; omega) ?_
    rw [S_len]
    refine EW.cint <| PW2.addN fi.2.length 1 <| PW2.divI (fi.2.length + 1) (by omega) (by omega) fun ww => ?_
    have rest : ∀ c : Nat, c < 1114112 → FW B (n + 5) (fenv deedS q f cd L) (execs (deedB.drop 13) (fenv deedS q f cd L)) (upd (upd (upd (upd (upd (upd (upd (upd (locOf ["page", "files", "x", "table"] [.str (S page), .ref kf, .int x, .ref kt]) "n" (.int (fs.length : Int))) "z" (.int z)) "i" (.int (i : Int))) "y" (.int y)) "name" (.str (S fi.2))) "deed" (.int (d : Int))) "w" (.int ww)) "sign" (.str (S [c]))) H
        fun fl _ H' => ∃ v H2 G, (match (generalizing := false) fl with | .ret u => u | _ => .none) = v ∧ H' = H2 ++ G ∧ H.length ≤ H2.length ∧ ((∀ o ∈ H, o.Closed H.length) → ∀ o ∈ H2, o.Closed H2.length) ∧ v.Closed H2.length ∧ (∃ fs' page' ks', v = .str (S page') ∧ DeedR w fs page fs' page' ∧ Files H2 kf ks' fs' ∧ ∀ k o, k ≠ kf → k ∉ ks → H[k]? = some o → H2[k]? = some o) := fun c hc => by
      refine SW.cons <| ST.ret <| EW.call T.ok (.top hfp) Fp.callee <| EWs.cons <| EW.name rfl <| EWs.cons <| EW.name rfl <| EWs.cons <| EW.name rfl <| EWs.cons <| EW.binop <| EW.name rfl <| EW.binop <| EW.call T.ok glen (.builtin _) <| EWs.cons <| EW.name rfl <| EWs.nil <| CW.lens (by rw [S_len]; omega) ?_
      rw [S_len]
      refine EW.cint <| PW2.addN fi.2.length 1 <| PW2.modI (fi.2.length + 1) (by omega) fun p hpp => ?_
      refine EWs.cons <| EW.name rfl <| EWs.cons <| EW.name rfl <| EWs.nil <| CW.closed <| CW.mono (CW.lift (put_call (n := 0) (c := c) T hfp hk FF hs hfi hki (hkts ki hkin) hp (by omega)) (by omega)) fun v H' hv hcl => ret_all hcl.1 hcl.2 ?_
      obtain ⟨rfl, rfl⟩ := hv
      exact ⟨_, _, _, rfl, .put i p c fi hfi (by omega) hc, FF.set hki, hset _⟩
    refine SW.cons <| ST.assign T.there <| EW.ifexp <| TW.compare <| EW.binop <| EW.name rfl <| EW.cint <| PW2.modI 2 (by decide) fun e he => EW.cint <| PW2.eqN e 0 <| TV.bool ?_
    cases c6 : (e == 0) with
    | true =>
      refine EW.item <| EW.cstr <| EW.binop <| EW.binop <| EW.name rfl <| EW.cint <| PW2.divI 2 (by decide) (by decide) fun w2 => EW.cint <| PW2.modI 16 (by decide) fun j hj => ?_
      have hl16 : signLits.length = 16 := by decide
      refine PW2.itemN signLits j (signLits.getD j 0) (by rw [hl16]; decide) (getD_some (by rw [hl16]; exact hj)) ?_ rfl rfl
      have hall : ∀ k : Fin 16, signLits.getD k.1 0 < 1114112 := by decide
      exact rest _ (hall ⟨j, hj⟩)
    | false =>
      refine EW.call T.ok (.top hfsg) Fsg.callee <| EWs.cons <| EW.binop <| EW.name rfl <| EW.cint <| PW2.divI 2 (by decide) (by decide) fun w2 => EWs.nil <| CW.mono (CW.lift (sign_call (n := 0) T hfsg) (by omega)) fun v H2 hv => ?_
      obtain ⟨rfl, e⟩ := hv; obtain rfl := e.symm
      exact rest _ (signOf_lt _)
end Mine

end
section
open PySem PySem.W PySem.Calls PyProof.Rows
set_option maxRecDepth 100000
namespace Mine

/-! the tables -/
theorem tab_same (w c : Nat) : tabF (tabOf w) c = tabF (tabD w) c := by
  match w with
  | 0 => rfl
  | 1 =>
    unfold tabF tabOf tabD amp ltt quot
    simp only [List.lookup_cons, List.lookup_nil]
    by_cases h1 : c = 9
    · subst h1; rfl
    · by_cases h2 : c = 10
      · subst h2; rfl
      · by_cases h3 : c = 13
        · subst h3; rfl
        · rw [beq_eq_false_iff_ne.mpr h1, beq_eq_false_iff_ne.mpr h2, beq_eq_false_iff_ne.mpr h3]
  | 2 => rfl
  | 3 => rfl
  | k + 4 => rfl

theorem keys_bad (w : Nat) : ∀ p ∈ tabD w, safeCp p.1 = false ∧ p.1 ≠ 32 ∧ p.1 ≠ 39 ∧ p.1 ≠ 63 := by
  match w with
  | 0 => decide +kernel
  | 1 => decide +kernel
  | 2 => decide +kernel
  | 3 => decide +kernel
  | k + 4 =>
    have : tabD (k + 4) = tabD 4 := rfl
    rw [this]; decide +kernel

theorem lookup_none_of {t : List (Nat × List Nat)} {c : Nat} (h : ∀ p ∈ t, p.1 ≠ c) : t.lookup c = none := by
  induction t with
  | nil => rfl
  | cons p r ih =>
    rw [List.lookup_cons, beq_eq_false_iff_ne.mpr (Ne.symm (h p (.head _)))]
    exact ih fun q hq => h q (.tail _ hq)
theorem tabF_plain {w c : Nat} (h : ∀ p ∈ tabD w, p.1 ≠ c) : tabF (tabD w) c = [c] := by
  unfold tabF; rw [lookup_none_of h]
theorem tabF_safe {w c : Nat} (h : safeCp c = true) : tabF (tabD w) c = [c] :=
  tabF_plain fun p hp e => by have := (keys_bad w p hp).1; rw [e, h] at this; cases this
theorem tabF_32 (w : Nat) : tabF (tabD w) 32 = [32] := tabF_plain fun p hp => (keys_bad w p hp).2.1
theorem tabF_39 (w : Nat) : tabF (tabD w) 39 = [39] := tabF_plain fun p hp => (keys_bad w p hp).2.2.1
theorem tabF_63 (w : Nat) : tabF (tabD w) 63 = [63] := tabF_plain fun p hp => (keys_bad w p hp).2.2.2

theorem mapT_D (w : Nat) (l : List Nat) : mapT (tabOf w) l = mapT (tabD w) l := by
  unfold mapT
  induction l with
  | nil => rfl
  | cons c r ih => rw [List.flatMap_cons, List.flatMap_cons, ih, tab_same]
theorem mapT_app (t : List (Nat × List Nat)) (l m : List Nat) : mapT t (l ++ m) = mapT t l ++ mapT t m := by simp [mapT]
theorem mapT_cons (t : List (Nat × List Nat)) (c : Nat) (l : List Nat) : mapT t (c :: l) = tabF t c ++ mapT t l := by simp [mapT]
theorem mapT_glue (w : Nat) : ∀ ls : List (List Nat), mapT (tabD w) (glue [32] ls) = glue [32] (ls.map (mapT (tabD w)))
  | [] => rfl
  | [x] => rfl
  | x :: y :: r => by
    have ih := mapT_glue w (y :: r)
    show mapT (tabD w) (x ++ [32] ++ glue [32] (y :: r)) = _
    rw [mapT_app, mapT_app, ih, show mapT (tabD w) [32] = [32] by rw [mapT_cons, tabF_32]; rfl]; rfl

theorem mapT_safe {w : Nat} {l : List Nat} (h : l.all safeCp = true) : mapT (tabD w) l = l := by
  induction l with
  | nil => rfl
  | cons c r ih =>
    simp only [List.all_cons, Bool.and_eq_true] at h
    rw [mapT_cons, tabF_safe h.1, ih h.2]; rfl

/-! the name -/
def nameL (w : Nat) (l : List Nat) : List Nat := if bareL l then l else [39] ++ l.flatMap (spell w) ++ [39]

theorem safe39 : safeCp 39 = false := by decide +kernel
theorem spell_safe {w c : Nat} (h : safeCp c = true) : spell w c = [c] := by
  have h39 : c ≠ 39 := fun e => by rw [e, safe39] at h; cases h
  unfold spell; rw [if_neg h39, tabF_safe h]
theorem flat_safe {w : Nat} {l : List Nat} (h : l.all safeCp = true) : l.flatMap (spell w) = l := by
  induction l with
  | nil => rfl
  | cons c r ih =>
    simp only [List.all_cons, Bool.and_eq_true] at h
    rw [List.flatMap_cons, spell_safe h.1, ih h.2]; rfl
theorem mapT_sub (w : Nat) (l : List Nat) : mapT (tabD w) (sub1 39 [39, 34, 39, 34, 39] l) = l.flatMap (spell w) := by
  induction l with
  | nil => rfl
  | cons c r ih =>
    have e : sub1 39 [39, 34, 39, 34, 39] (c :: r) = (if c = 39 then [39, 34, 39, 34, 39] else [c]) ++ sub1 39 [39, 34, 39, 34, 39] r := by simp [sub1]
    rw [e, mapT_app, ih, List.flatMap_cons]
    congr 1
    unfold spell
    by_cases h : c = 39
    · rw [if_pos h, if_pos h]
      simp only [mapT_cons, tabF_39]
      simp [mapT]
    · rw [if_neg h, if_neg h, mapT_cons]; simp [mapT]
theorem any_all (l : List Nat) : (l.any fun c => !safeCp c) = !l.all safeCp := by
  induction l with
  | nil => rfl
  | cons c r ih => simp only [List.any_cons, List.all_cons, ih, Bool.not_and]
theorem name_is (w : Nat) (l : List Nat) : mapT (tabD w) (quoteL l) = nameL w l := by
  unfold quoteL nameL bareL
  by_cases h0 : l = []
  · subst h0
    simp only [List.length_nil, if_true, List.flatMap_nil]
    simp [mapT_cons, tabF_39]
    rfl
  · have h1 : ¬ l.length = 0 := fun e => h0 (List.length_eq_zero_iff.mp e)
    rw [if_neg h1, decide_eq_true h0, Bool.true_and, any_all]
    cases h : l.all safeCp with
    | true => simp only [Bool.not_true, Bool.false_eq_true, if_false, if_true]; exact mapT_safe h
    | false =>
      simp only [Bool.not_false, if_true, Bool.false_eq_true, if_false]
      rw [mapT_app, mapT_app, mapT_sub, show mapT (tabD w) [39] = [39] by rw [mapT_cons, tabF_39]; rfl]

theorem flat_len (w : Nat) (l : List Nat) : (l.flatMap (spell w)).length = sumSp w l := by
  induction l with
  | nil => rfl
  | cons c r ih => simp only [List.flatMap_cons, List.length_append, ih, sumSp, List.map_cons, List.sum_cons]
theorem name_len (w : Nat) (l : List Nat) : (nameL w l).length = wideL w l := by
  unfold nameL wideL
  cases bareL l with
  | true => rfl
  | false =>
    have := flat_len w l
    simp only [Bool.false_eq_true, if_false, List.length_append, List.length_cons, List.length_nil, this]
    unfold sumSp; omega

/-! the row -/
def bitN (m k : Nat) : Nat := m / 2 ^ k % 2
theorem bitN_lt (m k : Nat) : bitN m k < 2 := Nat.mod_lt _ (by decide)
theorem and_bit (m k : Nat) : m &&& 2 ^ k = bitN m k * 2 ^ k := by
  have hl := bitN_lt m k
  have hb : m.testBit k = decide (bitN m k = 1) := Nat.testBit_eq_decide_div_mod_eq
  apply Nat.eq_of_testBit_eq
  intro i
  rw [Nat.testBit_and, Nat.testBit_two_pow]
  by_cases hi : k = i
  · subst hi
    rw [hb]
    rcases (by omega : bitN m k = 0 ∨ bitN m k = 1) with e | e
    · rw [e]; simp
    · rw [e]; simp
  · rw [decide_eq_false hi, Bool.and_false]
    rcases (by omega : bitN m k = 0 ∨ bitN m k = 1) with e | e
    · rw [e]; simp
    · rw [e, Nat.one_mul, Nat.testBit_two_pow, decide_eq_false hi]

/-- a sign of the row, by its bits -/
def signC (p x y : Nat) : Nat := if p % 3 = 1 then [45, 114].getD x 0 else if p % 3 = 2 then [45, 119].getD x 0 else (lastRow (thirdOf p)).getD (x + 2 * y) 0
theorem d4 (x : Nat) : x % 8 / 4 = x / 4 % 2 := by omega
theorem d2 (x : Nat) : x % 8 / 2 % 2 = x / 2 % 2 := by omega
theorem d1 (x : Nat) : x % 8 % 2 = x % 2 := Nat.mod_mod_of_dvd x (by decide)
theorem right_bits {m p : Nat} (h1 : 1 ≤ p) (h9 : p ≤ 9) : rightC m p = signC p (bitN m (9 - p)) (bitN m (12 - p / 3)) := by
  match p, h1, h9 with
  | 1, _, _ =>
    have : digitOf m 1 / 4 = bitN m 8 := by show m / 64 % 8 / 4 = m / 256 % 2; rw [d4, Nat.div_div_eq_div_mul]
    simp [rightC, signC, this]
  | 2, _, _ =>
    have : digitOf m 2 / 2 % 2 = bitN m 7 := by show m / 64 % 8 / 2 % 2 = m / 128 % 2; rw [d2, Nat.div_div_eq_div_mul]
    simp [rightC, signC, this]
  | 3, _, _ =>
    have : digitOf m 3 % 2 = bitN m 6 := d1 _
    have h2 : aboveOf m 3 = bitN m 11 := by show m / 512 / 4 % 2 = m / 2048 % 2; rw [Nat.div_div_eq_div_mul]
    simp [rightC, signC, this, h2]
  | 4, _, _ =>
    have : digitOf m 4 / 4 = bitN m 5 := by show m / 8 % 8 / 4 = m / 32 % 2; rw [d4, Nat.div_div_eq_div_mul]
    simp [rightC, signC, this]
  | 5, _, _ =>
    have : digitOf m 5 / 2 % 2 = bitN m 4 := by show m / 8 % 8 / 2 % 2 = m / 16 % 2; rw [d2, Nat.div_div_eq_div_mul]
    simp [rightC, signC, this]
  | 6, _, _ =>
    have : digitOf m 6 % 2 = bitN m 3 := d1 _
    have h2 : aboveOf m 6 = bitN m 10 := by show m / 512 / 2 % 2 = m / 1024 % 2; rw [Nat.div_div_eq_div_mul]
    simp [rightC, signC, this, h2]
  | 7, _, _ =>
    have : digitOf m 7 / 4 = bitN m 2 := by show m / 1 % 8 / 4 = m / 4 % 2; rw [d4, Nat.div_one]
    simp [rightC, signC, this]
  | 8, _, _ =>
    have : digitOf m 8 / 2 % 2 = bitN m 1 := by show m / 1 % 8 / 2 % 2 = m / 2 % 2; rw [d2, Nat.div_one]
    simp [rightC, signC, this]
  | 9, _, _ =>
    have : digitOf m 9 % 2 = bitN m 0 := d1 _
    have h2 : aboveOf m 9 = bitN m 9 := by show m / 512 / 1 % 2 = m / 512 % 2; rw [Nat.div_one]
    simp [rightC, signC, this, h2]
  | k + 10, _, h => exact absurd h (by omega)

/-- one right -/
theorem row_one {m k c i : Nat} (hi : i ≠ 0) : rowCh i m [(2 ^ k, c)] = if bitN m k = 1 then c else 45 := by
  have h := and_bit m k
  have hl := bitN_lt m k
  have hp : 0 < 2 ^ k := Nat.pow_pos (by decide)
  unfold rowCh hit
  simp only [if_neg hi, List.find?_cons, List.find?_nil, h]
  by_cases hb : bitN m k = 1
  · simp [hb]
  · have h0 : bitN m k = 0 := by omega
    have : (0 == 2 ^ k) = false := beq_eq_false_iff_ne.mpr (by omega)
    simp [h0, this]

/-- a right with a bit above -/
theorem row_two {m k j c1 c2 c3 i : Nat} (hi : i ≠ 0) (hkj : k < j) : rowCh i m [(2 ^ j + 2 ^ k, c1), (2 ^ j, c2), (2 ^ k, c3)] = [45, c3, c2, c1].getD (bitN m k + 2 * bitN m j) 0 := by
  have hk := and_bit m k
  have hj := and_bit m j
  have lk := bitN_lt m k
  have lj := bitN_lt m j
  have pk : 0 < 2 ^ k := Nat.pow_pos (by decide)
  have hlt : 2 ^ k < 2 ^ j := Nat.pow_lt_pow_right (by decide) hkj
  have hor : (2 ^ j + 2 ^ k : Nat) = 2 ^ j ||| 2 ^ k := by
    have := Nat.two_pow_add_eq_or_of_lt (i := j) (b := 2 ^ k) hlt 1
    simpa using this
  have hb : m &&& (2 ^ j + 2 ^ k) = bitN m j * 2 ^ j + bitN m k * 2 ^ k := by
    rw [hor, Nat.and_or_distrib_left, hj, hk]
    rcases (by omega : bitN m j = 0 ∨ bitN m j = 1) with e | e <;> rcases (by omega : bitN m k = 0 ∨ bitN m k = 1) with e' | e' <;> simp [e, e', hor]
  unfold rowCh hit
  simp only [if_neg hi, List.find?_cons, List.find?_nil, hb, hk, hj]
  rcases (by omega : bitN m j = 0 ∨ bitN m j = 1) with e | e <;> rcases (by omega : bitN m k = 0 ∨ bitN m k = 1) with e' | e'
  · have a1 : (0 == 2 ^ j + 2 ^ k) = false := beq_eq_false_iff_ne.mpr (by omega)
    have a2 : (0 == 2 ^ j) = false := beq_eq_false_iff_ne.mpr (by omega)
    have a3 : (0 == 2 ^ k) = false := beq_eq_false_iff_ne.mpr (by omega)
    simp [e, e', a1, a2, a3]
  · have a1 : (2 ^ k == 2 ^ j + 2 ^ k) = false := beq_eq_false_iff_ne.mpr (by omega)
    have a2 : (0 == 2 ^ j) = false := beq_eq_false_iff_ne.mpr (by omega)
    simp [e, e', a1, a2]
  · have a1 : (2 ^ j == 2 ^ j + 2 ^ k) = false := beq_eq_false_iff_ne.mpr (by omega)
    simp [e, e', a1]
  · simp [e, e']

theorem one_get {b c : Nat} (h : b < 2) : (if b = 1 then c else 45) = [45, c].getD b 0 := by
  rcases (by omega : b = 0 ∨ b = 1) with e | e <;> subst e <;> rfl

def kindC (m : Nat) : Nat := if known m then types.getD (m / 4096) 0 else 63

theorem and_kind {m : Nat} (h : m < 65536) : m &&& 61440 = m / 4096 * 4096 := by
  have e : (61440 : Nat) = 2 ^ 15 ||| 2 ^ 14 ||| 2 ^ 13 ||| 2 ^ 12 := by decide
  rw [e, Nat.and_or_distrib_left, Nat.and_or_distrib_left, Nat.and_or_distrib_left, and_bit, and_bit, and_bit, and_bit]
  have l15 := bitN_lt m 15
  have l14 := bitN_lt m 14
  have l13 := bitN_lt m 13
  have l12 := bitN_lt m 12
  have s : m / 4096 = bitN m 12 + 2 * bitN m 13 + 4 * bitN m 14 + 8 * bitN m 15 := by
    show m / 4096 = m / 4096 % 2 + 2 * (m / 8192 % 2) + 4 * (m / 16384 % 2) + 8 * (m / 32768 % 2)
    omega
  rw [s]
  generalize bitN m 15 = a at *
  generalize bitN m 14 = b at *
  generalize bitN m 13 = c at *
  generalize bitN m 12 = d at *
  clear s h e
  rcases (by omega : a = 0 ∨ a = 1) with e | e <;> rcases (by omega : b = 0 ∨ b = 1) with e' | e' <;> rcases (by omega : c = 0 ∨ c = 1) with e'' | e'' <;> rcases (by omega : d = 0 ∨ d = 1) with e''' | e''' <;> subst e e' e'' e''' <;> rfl

theorem kind_all : ∀ q : Fin 16, (match ([(40960, 108), (49152, 115), (32768, 45), (24576, 98), (16384, 100), (8192, 99), (4096, 112)] : List (Nat × Nat)).find? (fun p => q.1 * 4096 == p.1) with | some p => p.2 | none => 63) = if [1, 2, 4, 6, 8, 10, 12].any (· == q.1) then types.getD q.1 0 else 63 := by decide +kernel
theorem row_kind {m : Nat} (h : m < 65536) : rowCh 0 m [(40960, 108), (49152, 115), (32768, 45), (24576, 98), (16384, 100), (8192, 99), (4096, 112)] = kindC m := by
  have := kind_all ⟨m / 4096, by omega⟩
  unfold rowCh hit kindC known
  simp only [if_true, and_kind h]
  exact this

theorem fm_is {m : Nat} (h : m < 65536) : fmL m = kindC m :: nineL m := by
  have e : fmL m = [rowCh 0 m [(40960, 108), (49152, 115), (32768, 45), (24576, 98), (16384, 100), (8192, 99), (4096, 112)], rowCh 1 m [(2 ^ 8, 114)], rowCh 2 m [(2 ^ 7, 119)], rowCh 3 m [(2 ^ 11 + 2 ^ 6, 115), (2 ^ 11, 83), (2 ^ 6, 120)],
    rowCh 4 m [(2 ^ 5, 114)], rowCh 5 m [(2 ^ 4, 119)], rowCh 6 m [(2 ^ 10 + 2 ^ 3, 115), (2 ^ 10, 83), (2 ^ 3, 120)], rowCh 7 m [(2 ^ 2, 114)], rowCh 8 m [(2 ^ 1, 119)], rowCh 9 m [(2 ^ 9 + 2 ^ 0, 116), (2 ^ 9, 84), (2 ^ 0, 120)]] := rfl
  have e2 : nineL m = [rightC m 1, rightC m 2, rightC m 3, rightC m 4, rightC m 5, rightC m 6, rightC m 7, rightC m 8, rightC m 9] := rfl
  rw [e, e2, row_kind h, row_one (by decide), row_one (by decide), row_two (by decide) (by decide), row_one (by decide), row_one (by decide), row_two (by decide) (by decide), row_one (by decide), row_one (by decide), row_two (by decide) (by decide)]
  rw [one_get (bitN_lt _ _), one_get (bitN_lt _ _), one_get (bitN_lt _ _), one_get (bitN_lt _ _), one_get (bitN_lt _ _), one_get (bitN_lt _ _)]
  iterate 9 rw [right_bits (by decide) (by decide)]
  rfl

theorem signC_safe : ∀ p : Fin 10, ∀ x y : Fin 2, safeCp (signC p.1 x.1 y.1) = true := by decide +kernel
theorem right_safe {m p : Nat} (h1 : 1 ≤ p) (h9 : p ≤ 9) : safeCp (rightC m p) = true := by
  rw [right_bits h1 h9]
  exact signC_safe ⟨p, by omega⟩ ⟨_, bitN_lt _ _⟩ ⟨_, bitN_lt _ _⟩
theorem nine_safe (m : Nat) : (nineL m).all safeCp = true := by
  unfold nineL
  rw [List.all_map, List.all_eq_true]
  intro j hj
  have := List.mem_range.mp hj
  exact right_safe (by omega) (by omega)
theorem types_safe : ∀ q : Fin 16, ([1, 2, 4, 6, 8, 10, 12].any (· == q.1)) = true → safeCp (types.getD q.1 0) = true := by decide +kernel
theorem safe63 : safeCp 63 = false := by decide +kernel

theorem row_is {w m : Nat} (h : m < 65536) : mapT (tabD w) (quoteL (fmL m)) = rowL m := by
  rw [name_is, fm_is h]
  unfold nameL bareL rowL kindC
  have hn := nine_safe m
  cases hk : known m with
  | true =>
    have hs : safeCp (types.getD (m / 4096) 0) = true := types_safe ⟨m / 4096, by omega⟩ hk
    simp only [if_true, List.all_cons, hs, hn]
    simp
  | false =>
    simp only [Bool.false_eq_true, if_false, List.all_cons, safe63, Bool.false_and, Bool.and_false]
    rw [List.flatMap_cons, flat_safe hn]
    have : spell w 63 = [63] := by unfold spell; rw [if_neg (by decide), tabF_63]
    rw [this]; simp

/-! the page -/
def blockL (w : Nat) (f : File) : List Nat := rowL f.1 ++ [32] ++ nameL w f.2
def pageL (w : Nat) (fs : List File) : List Nat := glue [32] (fs.map (blockL w))
def wordsL (fs : List File) : List (List Nat) := fs.flatMap fun f => [fmL f.1, f.2]

theorem glue_pairs {α : Type} (a b : α → List Nat) : ∀ fs : List α, glue [32] (fs.flatMap fun f => [a f, b f]) = glue [32] (fs.map fun f => a f ++ [32] ++ b f)
  | [] => rfl
  | [f] => by simp [glue]
  | f :: g :: r => by
    have ih := glue_pairs a b (g :: r)
    show a f ++ [32] ++ (b f ++ [32] ++ glue [32] ((g :: r).flatMap fun f => [a f, b f])) = (a f ++ [32] ++ b f) ++ [32] ++ glue [32] ((g :: r).map fun f => a f ++ [32] ++ b f)
    rw [ih]; simp only [List.append_assoc]

theorem page_is {w : Nat} {fs : List File} (h : ∀ f ∈ fs, f.1 < 65536) : mapT (tabOf w) (glue [32] ((wordsL fs).map quoteL)) = pageL w fs := by
  rw [mapT_D, mapT_glue]
  have e : ((wordsL fs).map quoteL).map (mapT (tabD w)) = fs.flatMap fun f => [mapT (tabD w) (quoteL (fmL f.1)), mapT (tabD w) (quoteL f.2)] := by
    unfold wordsL
    clear h
    induction fs with
    | nil => rfl
    | cons f r ih => simp only [List.flatMap_cons, List.map_append, ih]; rfl
  rw [e, glue_pairs (fun f : File => mapT (tabD w) (quoteL (fmL f.1))) (fun f : File => mapT (tabD w) (quoteL f.2))]
  unfold pageL
  congr 1
  apply List.map_congr_left
  intro f hf
  rw [row_is (h f hf), name_is]; rfl

/-- the page with a blank behind -/
def cat (w : Nat) (fs : List File) : List Nat := fs.flatMap fun f => blockL w f ++ [32]
theorem cat_app (w : Nat) (a b : List File) : cat w (a ++ b) = cat w a ++ cat w b := by simp [cat]
theorem cat_cons (w : Nat) (f : File) (b : List File) : cat w (f :: b) = blockL w f ++ [32] ++ cat w b := by simp [cat]
theorem page_cat (w : Nat) : ∀ fs : List File, fs ≠ [] → pageL w fs ++ [32] = cat w fs
  | [], h => absurd rfl h
  | [f], _ => by simp [pageL, cat, glue]
  | f :: g :: r, _ => by
    have ih := page_cat w (g :: r) (by simp)
    rw [cat_cons, ← ih]
    show blockL w f ++ [32] ++ pageL w (g :: r) ++ [32] = _
    simp only [List.append_assoc]

theorem row_len (m : Nat) : (rowL m).length = if known m then 10 else 12 := by
  unfold rowL; split <;> simp [nineL_len]
theorem block_len (w : Nat) (f : File) : (blockL w f ++ [32]).length = partN w f := by
  unfold blockL partN
  rw [List.length_append, List.length_append, List.length_append, row_len, name_len]
  simp only [List.length_cons, List.length_nil]; omega
theorem cat_len (w : Nat) (fs : List File) : (cat w fs).length = (fs.map (partN w)).sum := by
  induction fs with
  | nil => rfl
  | cons f r ih =>
    rw [cat_cons, List.length_append, ih, block_len]; simp
theorem start_is (w : Nat) (fs : List File) (i : Nat) : startN w fs i = (cat w (fs.take i)).length := by rw [cat_len]; rfl

end Mine

end
section
open PySem PySem.W PySem.Calls PyProof.Rows
set_option maxRecDepth 100000
namespace Mine

/-! cutting -/
section
variable {α : Type}
theorem cutT (P X : List α) (k : Nat) : (P ++ X).take (P.length + k) = P ++ X.take k := by
  rw [List.take_append, List.take_of_length_le (by omega)]; congr 2; omega
theorem cutD (P X : List α) (k : Nat) : (P ++ X).drop (P.length + k) = X.drop k := by
  rw [List.drop_append, List.drop_of_length_le (by omega), List.nil_append]; congr 1; omega
theorem cutT0 (P X : List α) : (P ++ X).take P.length = P := by simpa using cutT P X 0
theorem cutD0 (P X : List α) : (P ++ X).drop P.length = X := by simpa using cutD P X 0
theorem cutM (P X : List α) (a b : Nat) : ((P ++ X).take (P.length + b)).drop (P.length + a) = (X.take b).drop a := by rw [cutT, cutD]
theorem app_inj {a b : List α} {c : α} (h : a ++ [c] = b ++ [c]) : a = b := List.append_cancel_right h
end

/-- around one file -/
theorem page_mid {w : Nat} {fs : List File} {i : Nat} {f : File} (hi : fs[i]? = some f) : ∃ T, pageL w fs = cat w (fs.take i) ++ (blockL w f ++ T) ∧ ∀ g, pageL w (fs.set i g) = cat w (fs.take i) ++ (blockL w g ++ T) := by
  obtain ⟨hlt, e⟩ := List.getElem?_eq_some_iff.mp hi
  have hsplit : ∀ g, fs.set i g = fs.take i ++ g :: fs.drop (i + 1) := fun g => by rw [List.set_eq_take_append_cons_drop, if_pos hlt]
  have hfs : fs = fs.take i ++ f :: fs.drop (i + 1) := by
    conv => lhs; rw [← List.take_append_drop i fs, List.drop_eq_getElem_cons hlt, e]
  have hT : ∃ T, T ++ [32] = [32] ++ cat w (fs.drop (i + 1)) := by
    by_cases h : fs.drop (i + 1) = []
    · exact ⟨[], by rw [h]; rfl⟩
    · exact ⟨[32] ++ pageL w (fs.drop (i + 1)), by rw [List.append_assoc, page_cat w _ h]⟩
  obtain ⟨T, hT⟩ := hT
  have key : ∀ g, pageL w (fs.take i ++ g :: fs.drop (i + 1)) = cat w (fs.take i) ++ (blockL w g ++ T) := fun g => by
    apply app_inj (c := 32)
    rw [page_cat w _ (by simp), cat_app, cat_cons]
    simp only [List.append_assoc, hT]
  refine ⟨T, ?_, fun g => ?_⟩
  · have := key f
    rwa [← hfs] at this
  · rw [hsplit]; exact key g

/-! bits -/
theorem bitN_add {x b k : Nat} (hb : bitN x b = 0) (hk : k ≠ b) : bitN (x + 2 ^ b) k = bitN x k := by
  unfold bitN at *
  rcases Nat.lt_or_gt_of_ne hk with h | h
  · have e : 2 ^ b = 2 ^ k * (2 * 2 ^ (b - k - 1)) := by
      rw [← Nat.mul_assoc, Nat.mul_comm (2 ^ k) 2, ← Nat.pow_succ', ← Nat.pow_add]; congr 1; omega
    rw [e, Nat.add_mul_div_left _ _ (Nat.pow_pos (by decide)), Nat.add_mul_mod_self_left]
  · have e : 2 ^ k = 2 ^ b * (2 * 2 ^ (k - b - 1)) := by
      rw [← Nat.mul_assoc, Nat.mul_comm (2 ^ b) 2, ← Nat.pow_succ', ← Nat.pow_add]; congr 1; omega
    rw [e, ← Nat.div_div_eq_div_mul, ← Nat.div_div_eq_div_mul, ← Nat.div_div_eq_div_mul, ← Nat.div_div_eq_div_mul]
    have h1 : (x + 2 ^ b) / 2 ^ b = x / 2 ^ b + 1 := Nat.add_div_right _ (Nat.pow_pos (by decide))
    rw [h1]
    have h2 : (x / 2 ^ b + 1) / 2 = x / 2 ^ b / 2 := by omega
    rw [h2]
theorem bitN_new {m b k : Nat} (hk : k ≠ b) : bitN (newM m b) k = bitN m k := by
  unfold newM
  split
  · rename_i h
    have hle : 2 ^ b ≤ m := bit_le h
    have h0 : bitN (m - 2 ^ b) b = 0 := by
      unfold bitN
      have h1 : m / 2 ^ b = (m - 2 ^ b) / 2 ^ b + 1 := by
        conv => lhs; rw [← Nat.sub_add_cancel hle]
        exact Nat.add_div_right _ (Nat.pow_pos (by decide))
      omega
    have := bitN_add h0 hk
    rw [Nat.sub_add_cancel hle] at this
    exact this.symm
  · rename_i h
    exact bitN_add (by unfold bitN; omega) hk

theorem right_new {m b p : Nat} (h1 : 1 ≤ p) (h9 : p ≤ 9) (ha : 9 - p ≠ b) (hb : p % 3 = 0 → 12 - p / 3 ≠ b) : rightC (newM m b) p = rightC m p := by
  rw [right_bits h1 h9, right_bits h1 h9, bitN_new ha]
  by_cases h : p % 3 = 0
  · rw [bitN_new (hb h)]
  · have : p % 3 = 1 ∨ p % 3 = 2 := by omega
    unfold signC
    rcases this with e | e <;> simp [e]

theorem nine_high {m b : Nat} (hb : 12 ≤ b) : nineL (newM m b) = nineL m := by
  unfold nineL
  apply List.map_congr_left
  intro j hj
  have := List.mem_range.mp hj
  exact right_new (by omega) (by omega) (by omega) (by omega)

theorem nine_get (m : Nat) {j : Nat} (h : j < 9) : (nineL m)[j]? = some (rightC m (1 + j)) := by
  unfold nineL; rw [List.getElem?_map, List.getElem?_range h]; rfl

theorem places_ok : ∀ b : Fin 12, (1 ≤ places.getD b.1 0 ∧ places.getD b.1 0 ≤ 9) ∧ ∀ q : Fin 10, 1 ≤ q.1 → q.1 ≠ places.getD b.1 0 → 9 - q.1 ≠ b.1 ∧ (q.1 % 3 = 0 → 12 - q.1 / 3 ≠ b.1) := by decide +kernel
/-- one of the twelve lower bits -/
theorem nine_low {m b : Nat} (hb : b < 12) : nineL (newM m b) = (nineL m).take (places.getD b 0 - 1) ++ [rightC (newM m b) (places.getD b 0)] ++ (nineL m).drop (places.getD b 0) ∧ 1 ≤ places.getD b 0 ∧ places.getD b 0 ≤ 9 := by
  have hp : (1 ≤ places.getD b 0 ∧ places.getD b 0 ≤ 9) ∧ ∀ q, 1 ≤ q → q ≤ 9 → q ≠ places.getD b 0 → 9 - q ≠ b ∧ (q % 3 = 0 → 12 - q / 3 ≠ b) :=
    ⟨(places_ok ⟨b, hb⟩).1, fun q h1 h9 hq => (places_ok ⟨b, hb⟩).2 ⟨q, Nat.lt_succ_of_le h9⟩ h1 hq⟩
  obtain ⟨⟨h1, h9⟩, hq⟩ := hp
  refine ⟨?_, h1, h9⟩
  generalize places.getD b 0 = p at *
  have hl := nineL_len m
  apply List.ext_getElem?
  intro j
  by_cases hj : j < 9
  · rw [nine_get _ hj]
    by_cases hjp : j < p - 1
    · rw [List.append_assoc, List.getElem?_append_left (by rw [List.length_take]; omega), List.getElem?_take_of_lt hjp, nine_get _ hj]
      obtain ⟨a, c⟩ := hq (1 + j) (by omega) (by omega) (by omega)
      rw [right_new (by omega) (by omega) a c]
    · have hlt : ((nineL m).take (p - 1)).length = p - 1 := by rw [List.length_take]; omega
      by_cases hje : j = p - 1
      · subst hje
        rw [List.append_assoc, List.getElem?_append_right (by omega), hlt]
        simp
        congr 1; omega
      · rw [List.getElem?_append_right (by rw [List.length_append, hlt]; simp; omega), List.length_append, hlt, List.getElem?_drop]
        simp only [List.length_cons, List.length_nil]
        rw [show p + (j - (p - 1 + (0 + 1))) = j by omega, nine_get _ hj]
        obtain ⟨a, c⟩ := hq (1 + j) (by omega) (by omega) (by omega)
        rw [right_new (by omega) (by omega) a c]
  · rw [List.getElem?_eq_none (by rw [nineL_len]; omega), List.getElem?_eq_none]
    simp only [List.length_append, List.length_take, List.length_drop, List.length_cons, List.length_nil]; omega

theorem high_kind {m b : Nat} (hb : b < 12) : newM m b / 4096 = m / 4096 := by
  have e : (4096 : Nat) = 2 ^ b * (2 * 2 ^ (11 - b)) := by
    rw [← Nat.mul_assoc, Nat.mul_comm (2 ^ b) 2, ← Nat.pow_succ', ← Nat.pow_add, show b + 1 + (11 - b) = 12 by omega]
  have key : ∀ x, bitN x b = 0 → (x + 2 ^ b) / 4096 = x / 4096 := fun x hx => by
    unfold bitN at hx
    rw [e, ← Nat.div_div_eq_div_mul, ← Nat.div_div_eq_div_mul, ← Nat.div_div_eq_div_mul, ← Nat.div_div_eq_div_mul, Nat.add_div_right _ (Nat.pow_pos (by decide)), show (x / 2 ^ b + 1) / 2 = x / 2 ^ b / 2 by omega]
  unfold newM
  split
  · rename_i h
    have hle : 2 ^ b ≤ m := bit_le h
    have h0 : bitN (m - 2 ^ b) b = 0 := by
      unfold bitN
      have h1 : m / 2 ^ b = (m - 2 ^ b) / 2 ^ b + 1 := by
        conv => lhs; rw [← Nat.sub_add_cancel hle]
        exact Nat.add_div_right _ (Nat.pow_pos (by decide))
      omega
    have := key _ h0
    rw [Nat.sub_add_cancel hle] at this
    exact this.symm
  · rename_i h
    exact key m (by unfold bitN; omega)

/-- the row, cut at a place -/
theorem row_low {m b : Nat} (hb : b < 12) (X : List Nat) : (rowL m ++ X).take (skipN m + places.getD b 0) ++ [rightC (newM m b) (places.getD b 0)] ++ (rowL m ++ X).drop (skipN m + places.getD b 0 + 1) = rowL (newM m b) ++ X := by
  obtain ⟨hn, h1, h9⟩ := nine_low (m := m) hb
  have hk : known (newM m b) = known m := by unfold known; rw [high_kind hb]
  have hl := nineL_len m
  generalize places.getD b 0 = p at *
  obtain ⟨q, rfl⟩ : ∃ q, p = q + 1 := ⟨p - 1, by omega⟩
  unfold rowL skipN
  rw [hk]
  cases hkn : known m with
  | true =>
    simp only [if_true]
    rw [high_kind hb, hn]
    rw [show 0 + (q + 1) = [types.getD (m / 4096) 0].length + q by simp; omega, List.append_assoc [types.getD (m / 4096) 0], cutT, Nat.add_assoc, cutD, List.take_append_of_le_length (by omega), List.drop_append_of_le_length (by omega)]
    simp
  | false =>
    simp only [Bool.false_eq_true, if_false]
    rw [hn]
    rw [show 1 + (q + 1) = ([39, 63] : List Nat).length + q by simp; omega, List.append_assoc [39, 63], List.append_assoc [39, 63], cutT, Nat.add_assoc, cutD, List.append_assoc (nineL m), List.take_append_of_le_length (by omega), List.drop_append_of_le_length (by omega)]
    simp

theorem row_nine (m : Nat) (X : List Nat) : ((rowL m ++ X).take (skipN m + 10)).drop (skipN m + 1) = nineL m ∧ (rowL m ++ X).drop (10 + 2 * skipN m) = X := by
  have hl := nineL_len m
  unfold rowL skipN
  cases hkn : known m with
  | true =>
    simp only [if_true]
    constructor
    · rw [show 0 + 10 = [types.getD (m / 4096) 0].length + 9 by simp, show 0 + 1 = [types.getD (m / 4096) 0].length + 0 by simp, List.append_assoc, cutM, List.take_append_of_le_length (by omega), List.take_of_length_le (by omega)]; rfl
    · have h10 : ([types.getD (m / 4096) 0] ++ nineL m).length = 10 := by simp [hl]
      rw [show 10 + 2 * 0 = ([types.getD (m / 4096) 0] ++ nineL m).length + 0 by rw [h10], cutD]; rfl
  | false =>
    simp only [Bool.false_eq_true, if_false]
    constructor
    · rw [show 1 + 10 = ([39, 63] : List Nat).length + 9 by simp, show 1 + 1 = ([39, 63] : List Nat).length + 0 by simp, List.append_assoc, List.append_assoc, cutM, List.take_append_of_le_length (by omega), List.take_of_length_le (by omega)]; rfl
    · have h12 : ([39, 63] ++ nineL m ++ [39]).length = 12 := by simp [hl]
      rw [show 10 + 2 * 1 = ([39, 63] ++ nineL m ++ [39]).length + 0 by rw [h12], cutD]; rfl

theorem turn_is {w : Nat} {fs : List File} {i b : Nat} {f : File} (hi : fs[i]? = some f) (hb : b < 16) : turnL w fs (pageL w fs) i b f = pageL w (fs.set i (newM f.1 b, f.2)) := by
  obtain ⟨T, e1, e2⟩ := page_mid (w := w) hi
  rw [e1, e2]
  have hX : ∀ m, blockL w (m, f.2) ++ T = rowL m ++ ([32] ++ nameL w f.2 ++ T) := fun m => by unfold blockL; simp only [List.append_assoc]
  have hf : f = (f.1, f.2) := rfl
  rw [hf, hX, hX]
  generalize [32] ++ nameL w f.2 ++ T = X
  unfold turnL
  rw [start_is]
  generalize cat w (fs.take i) = P
  by_cases h12 : b < 12
  · rw [if_pos h12, Nat.add_assoc, cutT, Nat.add_assoc, cutD, List.append_assoc, List.append_assoc, ← List.append_assoc ((rowL f.1 ++ X).take _), row_low h12]
  · rw [if_neg h12]
    obtain ⟨r1, r2⟩ := row_nine f.1 X
    have hn := nine_high (m := f.1) (b := b) (by omega)
    rw [Nat.add_assoc P.length (skipN f.1) 10, Nat.add_assoc P.length (skipN f.1) 1, cutM, r1, Nat.add_assoc P.length 10, cutD, r2, cutT0]
    cases hk : known (newM f.1 b) with
    | true =>
      rw [if_pos rfl]
      unfold rowL
      rw [if_pos hk, hn]
      simp only [List.append_assoc]
    | false =>
      simp only [Bool.false_eq_true, if_false]
      unfold rowL
      rw [if_neg (by rw [hk]; decide), hn]
      simp only [List.append_assoc]

/-! the name's edits -/
theorem front_is (w : Nat) (fs : List File) (i : Nat) (f : File) : frontN w fs i f = (cat w (fs.take i) ++ (rowL f.1 ++ [32])).length := by
  unfold frontN
  rw [start_is, List.length_append, List.length_append, row_len]
  cases known f.1 <;> rfl

theorem bare_all {l : List Nat} (h : bareL l = true) : l.all safeCp = true ∧ l ≠ [] := by
  unfold bareL at h
  rw [Bool.and_eq_true] at h
  exact ⟨h.2, by simpa using h.1⟩
theorem bare_of {l : List Nat} (h : l.all safeCp = true) (h0 : l ≠ []) : bareL l = true := by
  unfold bareL; rw [h, decide_eq_true h0]; rfl
theorem not_bare {l : List Nat} (h : bareL l = false) (h0 : l ≠ []) : l.all safeCp = false := by
  cases hs : l.all safeCp with
  | false => rfl
  | true => rw [bare_of hs h0] at h; cases h
theorem bare_not {l : List Nat} (h : l.all safeCp = false) : bareL l = false := by unfold bareL; rw [h, Bool.and_false]
theorem all_mid (l : List Nat) (p c : Nat) : (l.take p ++ [c] ++ l.drop p).all safeCp = (l.all safeCp && safeCp c) := by
  have h : l.all safeCp = ((l.take p).all safeCp && (l.drop p).all safeCp) := by
    conv => lhs; rw [← List.take_append_drop p l]
    exact List.all_append
  rw [List.all_append, List.all_append, h]
  simp only [List.all_cons, List.all_nil, Bool.and_true]
  cases (l.take p).all safeCp <;> cases (l.drop p).all safeCp <;> cases safeCp c <;> rfl
theorem name_nil (w : Nat) : nameL w [] = [39, 39] := rfl
theorem name_bare {w : Nat} {l : List Nat} (h : bareL l = true) : nameL w l = l := by unfold nameL; rw [if_pos h]
theorem name_non {w : Nat} {l : List Nat} (h : bareL l = false) : nameL w l = [39] ++ l.flatMap (spell w) ++ [39] := by unfold nameL; rw [if_neg (by rw [h]; decide)]

theorem around {w : Nat} {fs : List File} {i : Nat} {f : File} (hi : fs[i]? = some f) : ∃ P T, frontN w fs i f = P.length ∧ pageL w fs = P ++ (nameL w f.2 ++ T) ∧ ∀ l, pageL w (fs.set i (f.1, l)) = P ++ (nameL w l ++ T) := by
  obtain ⟨T, e1, e2⟩ := page_mid (w := w) hi
  refine ⟨cat w (fs.take i) ++ (rowL f.1 ++ [32]), T, front_is w fs i f, ?_, fun l => ?_⟩
  · rw [e1]; unfold blockL; simp only [List.append_assoc]
  · rw [e2]; unfold blockL; simp only [List.append_assoc]

theorem put_is {w : Nat} {fs : List File} {i p c : Nat} {f : File} (hi : fs[i]? = some f) (hp : p ≤ f.2.length) : putL w fs (pageL w fs) i p c f = pageL w (fs.set i (f.1, f.2.take p ++ [c] ++ f.2.drop p)) := by
  obtain ⟨P, T, e0, e1, e2⟩ := around (w := w) hi
  rw [e2]
  unfold putL
  simp only [e0, e1]
  generalize f.2 = l at *
  by_cases h0 : l = []
  · subst h0
    rw [if_pos rfl]
    simp only [List.take_nil, List.drop_nil, List.nil_append, List.append_nil, name_nil]
    cases hc : bareL [c] with
    | true =>
      rw [if_pos rfl, cutT0, cutD, name_bare hc]
      simp
    | false =>
      simp only [Bool.false_eq_true, if_false]
      rw [cutT, cutD, name_non hc]
      simp
  · rw [if_neg h0]
    have hmid := all_mid l p c
    have hne : l.take p ++ [c] ++ l.drop p ≠ [] := by simp
    cases hb : bareL l with
    | true =>
      rw [if_pos rfl]
      obtain ⟨hs, _⟩ := bare_all hb
      rw [name_bare hb]
      cases hc : bareL [c] with
      | true =>
        have hsc : safeCp c = true := by have := (bare_all hc).1; simpa using this
        rw [if_pos rfl, name_bare (bare_of (by rw [hmid, hs, hsc]; rfl) hne), cutT, cutD, List.take_append_of_le_length hp, List.drop_append_of_le_length hp]
        simp only [List.append_assoc]
      | false =>
        have hsc : safeCp c = false := by have := not_bare hc (by simp); simpa using this
        simp only [Bool.false_eq_true, if_false]
        rw [name_non (bare_not (by rw [hmid, hsc, Bool.and_false]))]
        have t1 : (l.take p).all safeCp = true := by
          rw [List.all_eq_true] at hs ⊢; exact fun x hx => hs x (List.mem_of_mem_take hx)
        have t2 : (l.drop p).all safeCp = true := by
          rw [List.all_eq_true] at hs ⊢; exact fun x hx => hs x (List.mem_of_mem_drop hx)
        rw [List.flatMap_append, List.flatMap_append, flat_safe t1, flat_safe t2]
        have m1 : ((P ++ (l ++ T)).take (P.length + p)).drop P.length = l.take p := by
          have := cutM P (l ++ T) 0 p
          rw [Nat.add_zero] at this
          rw [this, List.take_append_of_le_length hp]; rfl
        have m2 : ((P ++ (l ++ T)).take (P.length + l.length)).drop (P.length + p) = l.drop p := by
          rw [cutM, List.take_append_of_le_length (Nat.le_refl _), List.take_length]
        rw [m1, m2, cutT0, cutD, List.drop_append_of_le_length (Nat.le_refl _), List.drop_length]
        simp
    | false =>
      simp only [Bool.false_eq_true, if_false]
      have hns := not_bare hb h0
      rw [name_non hb, name_non (bare_not (by rw [hmid, hns, Bool.false_and])), Nat.add_assoc, cutT, cutD]
      have hsp : l.flatMap (spell w) = (l.take p).flatMap (spell w) ++ (l.drop p).flatMap (spell w) := by rw [← List.flatMap_append, List.take_append_drop]
      have hlen := flat_len w (l.take p)
      rw [List.flatMap_append, List.flatMap_append, hsp]
      generalize (l.take p).flatMap (spell w) = U at *
      generalize (l.drop p).flatMap (spell w) = V at *
      have c1 : ([39] ++ (U ++ V) ++ [39] ++ T) = ([39] ++ U) ++ (V ++ [39] ++ T) := by simp
      have c2 : 1 + sumSp w (l.take p) = ([39] ++ U).length := by rw [← hlen]; simp; omega
      rw [c1, c2, cutT0, cutD0]
      simp

theorem lose_is {w : Nat} {fs : List File} {i p c : Nat} {f : File} (hi : fs[i]? = some f) (hc : f.2[p]? = some c) : loseL w fs (pageL w fs) i p c f = pageL w (fs.set i (f.1, leftN f.2 p)) := by
  obtain ⟨P, T, e0, e1, e2⟩ := around (w := w) hi
  rw [e2]
  unfold loseL
  simp only [e0, e1]
  generalize f.2 = l at *
  obtain ⟨hlt, ec⟩ := List.getElem?_eq_some_iff.mp hc
  have hl : l = l.take p ++ [c] ++ l.drop (p + 1) := by
    conv => lhs; rw [← List.take_append_drop p l, List.drop_eq_getElem_cons hlt, ec]
    simp
  have hne : l ≠ [] := fun e => by subst e; simp at hlt
  cases hb : bareL l with
  | true =>
    rw [if_pos rfl, name_bare hb]
    obtain ⟨hs, _⟩ := bare_all hb
    by_cases h0 : leftN l p = []
    · rw [if_pos h0, h0, name_nil, cutT0, cutD]
      have h1 : l.length = 1 := by
        have := congrArg List.length h0
        unfold leftN at this
        rw [List.length_append, List.length_take, List.length_drop, List.length_nil] at this; omega
      rw [List.drop_append_of_le_length (by omega), List.drop_of_length_le (by omega)]
      simp
    · rw [if_neg h0]
      have hs2 : (leftN l p).all safeCp = true := by
        unfold leftN
        rw [List.all_eq_true] at hs ⊢
        intro x hx
        rcases List.mem_append.mp hx with hx | hx
        · exact hs x (List.mem_of_mem_take hx)
        · exact hs x (List.mem_of_mem_drop hx)
      rw [name_bare (bare_of hs2 h0), cutT, Nat.add_assoc, cutD, List.take_append_of_le_length (by omega), List.drop_append_of_le_length (by omega)]
      unfold leftN; simp only [List.append_assoc]
  | false =>
    simp only [Bool.false_eq_true, if_false]
    have hlen := flat_len w (l.take p)
    have hall : l.flatMap (spell w) = (l.take p).flatMap (spell w) ++ spell w c ++ (l.drop (p + 1)).flatMap (spell w) := by
      conv => lhs; rw [hl]
      simp [List.flatMap_append]
    have hleft : (leftN l p).flatMap (spell w) = (l.take p).flatMap (spell w) ++ (l.drop (p + 1)).flatMap (spell w) := by unfold leftN; rw [List.flatMap_append]
    have hw := name_len w l
    rw [name_non hb, hall] at hw
    have hin : innerL w (P ++ (nameL w l ++ T)) l P.length p c = (leftN l p).flatMap (spell w) := by
      unfold innerL
      rw [hleft, ← hw, name_non hb, hall]
      generalize (l.take p).flatMap (spell w) = U at *
      generalize (l.drop (p + 1)).flatMap (spell w) = V at *
      generalize spell w c = Z at *
      have a1 : P.length + 1 + sumSp w (l.take p) = P.length + (1 + U.length) := by rw [hlen]; omega
      have a2 : P.length + ([39] ++ (U ++ Z ++ V) ++ [39]).length - 1 = P.length + (1 + U.length + Z.length + V.length) := by simp only [List.length_append, List.length_cons, List.length_nil]; omega
      rw [a1, a2, cutM, Nat.add_assoc P.length, cutM]
      have b1 : ([39] ++ (U ++ Z ++ V) ++ [39] ++ T) = ([39] ++ U) ++ (Z ++ V ++ [39] ++ T) := by simp
      have b2 : ([39] ++ (U ++ Z ++ V) ++ [39] ++ T) = ([39] ++ U ++ Z ++ V) ++ ([39] ++ T) := by simp
      have b3 : 1 + U.length = ([39] ++ U).length := by simp; omega
      have b4 : 1 + U.length + Z.length + V.length = ([39] ++ U ++ Z ++ V).length := by simp; omega
      have c1 : (([39] ++ (U ++ Z ++ V) ++ [39] ++ T).take (1 + U.length)).drop 1 = U := by rw [b1, b3, cutT0]; rfl
      have c2 : (([39] ++ (U ++ Z ++ V) ++ [39] ++ T).take (1 + U.length + Z.length + V.length)).drop (1 + U.length + Z.length) = V := by
        rw [b2, b4, cutT0, show 1 + U.length + Z.length = ([39] ++ U ++ Z).length by simp; omega, cutD0]
      rw [c1, c2]
    rw [hin]
    cases hb2 : bareL (leftN l p) with
    | true =>
      obtain ⟨hs2, _⟩ := bare_all hb2
      rw [if_pos rfl, name_bare hb2, flat_safe hs2, cutT0, ← hw, name_non hb, hall, cutD, cutD0]
      simp
    | false =>
      simp only [Bool.false_eq_true, if_false]
      rw [name_non hb2, ← hw, name_non hb, hall, cutT]
      have a2 : P.length + ([39] ++ ((l.take p).flatMap (spell w) ++ spell w c ++ (l.drop (p + 1)).flatMap (spell w)) ++ [39]).length - 1 = P.length + ([39] ++ ((l.take p).flatMap (spell w) ++ spell w c ++ (l.drop (p + 1)).flatMap (spell w))).length := by simp only [List.length_append, List.length_cons, List.length_nil]; omega
      rw [a2, cutD, List.append_assoc _ [39] T, cutD0]
      simp

/-! files that come, go or change places -/
theorem come_is {w : Nat} {fs : List File} {i m : Nat} (h0 : fs ≠ []) (hi : i ≤ fs.length) : comeL w fs (pageL w fs) i m = pageL w (fs.take i ++ (m, []) :: fs.drop i) := by
  apply app_inj (c := 32)
  rw [page_cat w (fs.take i ++ (m, []) :: fs.drop i) (by simp), cat_app, cat_cons]
  have hp := page_cat w fs h0
  unfold comeL
  by_cases he : i = fs.length
  · rw [if_pos he]
    rw [List.take_of_length_le (by omega), List.drop_of_length_le (by omega), ← hp]
    unfold blockL; rw [name_nil]
    simp [cat]
  · rw [if_neg he]
    have hne : fs.drop i ≠ [] := by simp; omega
    have hpg : pageL w fs = cat w (fs.take i) ++ pageL w (fs.drop i) := by
      apply app_inj (c := 32)
      rw [hp, List.append_assoc, page_cat w _ hne, ← cat_app, List.take_append_drop]
    rw [hpg, start_is, cutT0, cutD0, ← page_cat w _ hne]
    unfold blockL; rw [name_nil]
    simp

theorem go_is {w : Nat} {fs : List File} {i : Nat} (h1 : 1 < fs.length) (hi : i < fs.length) : goL w fs (pageL w fs) i = pageL w (fs.eraseIdx i) := by
  have h0 : fs ≠ [] := fun e => by subst e; simp at hi
  have hp := page_cat w fs h0
  rw [List.eraseIdx_eq_take_drop_succ]
  unfold goL
  by_cases hl : i + 1 = fs.length
  · rw [if_pos hl, List.drop_of_length_le (by omega), List.append_nil]
    have hne : fs.take i ≠ [] := by
      intro e
      have := congrArg List.length e
      rw [List.length_take, List.length_nil] at this; omega
    have hq := page_cat w _ hne
    rw [start_is, ← hq]
    have : pageL w fs ++ [32] = pageL w (fs.take i) ++ ([32] ++ cat w (fs.drop i)) := by
      rw [hp, ← List.append_assoc, hq, ← cat_app, List.take_append_drop]
    have h2 : (pageL w (fs.take i) ++ [32]).length - 1 = (pageL w (fs.take i)).length := by simp
    rw [h2]
    have h3 : (pageL w (fs.take i)).length ≤ (pageL w fs).length := by
      have := congrArg List.length this
      simp only [List.length_append, List.length_cons, List.length_nil] at this; omega
    have h4 := congrArg (List.take (pageL w (fs.take i)).length) this
    rw [List.take_append_of_le_length h3, cutT0] at h4
    exact h4
  · rw [if_neg hl]
    have hne : fs.drop (i + 1) ≠ [] := by simp; omega
    have hd : ∀ a b : List File, b ≠ [] → pageL w (a ++ b) = cat w a ++ pageL w b := fun a b hb => by
      apply app_inj (c := 32)
      rw [page_cat w _ (by simp [hb]), cat_app, List.append_assoc, page_cat w _ hb]
    rw [hd _ _ hne]
    have e1 : pageL w fs = cat w (fs.take (i + 1)) ++ pageL w (fs.drop (i + 1)) := by
      rw [← hd _ _ hne, List.take_append_drop]
    have hne' : fs.drop i ≠ [] := by simp; omega
    have e2 : pageL w fs = cat w (fs.take i) ++ pageL w (fs.drop i) := by
      rw [← hd _ _ hne', List.take_append_drop]
    rw [start_is, start_is]
    have t1 : (pageL w fs).take (cat w (fs.take i)).length = cat w (fs.take i) := by rw [e2, cutT0]
    have t2 : (pageL w fs).drop (cat w (fs.take (i + 1))).length = pageL w (fs.drop (i + 1)) := by rw [e1, cutD0]
    rw [t1, t2]

theorem change_is {w : Nat} {fs : List File} {i : Nat} {g : File} (hi : i + 1 < fs.length) (hg : fs[i + 1]? = some g) : chanL w fs (pageL w fs) i = pageL w ((fs.eraseIdx (i + 1)).take i ++ g :: (fs.eraseIdx (i + 1)).drop i) := by
  have hlt : i < fs.length := by omega
  obtain ⟨f, hf⟩ : ∃ f, fs[i]? = some f := ⟨_, List.getElem?_eq_getElem hlt⟩
  obtain ⟨_, ef⟩ := List.getElem?_eq_some_iff.mp hf
  obtain ⟨_, eg⟩ := List.getElem?_eq_some_iff.mp hg
  have hsp : fs = fs.take i ++ f :: g :: fs.drop (i + 2) := by
    conv => lhs; rw [← List.take_append_drop i fs, List.drop_eq_getElem_cons hlt, List.drop_eq_getElem_cons hi, ef, eg]
  generalize ha : fs.take i = a at *
  generalize fs.drop (i + 2) = d at *
  have hal : a.length = i := by rw [← ha, List.length_take]; omega
  subst hsp
  subst hal
  have k1 : (a ++ f :: g :: d).eraseIdx (a.length + 1) = a ++ f :: d := by
    rw [List.eraseIdx_append_of_length_le (by omega)]
    congr 1
    rw [show a.length + 1 - a.length = 1 by omega]; rfl
  rw [k1]
  have k2 : (a ++ f :: d).take a.length = a := by simp
  have k3 : (a ++ f :: d).drop a.length = f :: d := by simp
  rw [k2, k3]
  have hT : ∃ T, T ++ [32] = [32] ++ cat w d := by
    by_cases h : d = []
    · exact ⟨[], by rw [h]; rfl⟩
    · exact ⟨[32] ++ pageL w d, by rw [List.append_assoc, page_cat w _ h]⟩
  obtain ⟨T, hT⟩ := hT
  have key : ∀ x y : File, pageL w (a ++ x :: y :: d) = cat w a ++ (blockL w x ++ ([32] ++ (blockL w y ++ T))) := fun x y => by
    apply app_inj (c := 32)
    rw [page_cat w _ (by simp), cat_app, cat_cons, cat_cons]
    simp only [List.append_assoc, hT]
  rw [key, key]
  unfold chanL
  have s0 : startN w (a ++ f :: g :: d) a.length = (cat w a).length := by rw [start_is]; simp
  have s1 : startN w (a ++ f :: g :: d) (a.length + 1) = (cat w a).length + ((blockL w f).length + 1) := by
    rw [start_is, List.take_append, List.take_of_length_le (by omega), show a.length + 1 - a.length = 1 by omega, cat_app, List.length_append]
    congr 1
    simp [cat]
  have s2 : startN w (a ++ f :: g :: d) (a.length + 2) - 1 = (cat w a).length + ((blockL w f).length + 1 + (blockL w g).length) := by
    rw [start_is, List.take_append, List.take_of_length_le (by omega), show a.length + 2 - a.length = 2 by omega, cat_app, List.length_append]
    simp [cat]; omega
  have s3 : (cat w a).length + ((blockL w f).length + 1) - 1 = (cat w a).length + (blockL w f).length := by omega
  rw [s2, s1, s0, s3, cutT0, cutM, cutD]
  have m0 : ((cat w a ++ (blockL w f ++ ([32] ++ (blockL w g ++ T)))).take ((cat w a).length + (blockL w f).length)).drop (cat w a).length = blockL w f := by
    have := cutM (cat w a) (blockL w f ++ ([32] ++ (blockL w g ++ T))) 0 (blockL w f).length
    rw [Nat.add_zero] at this
    rw [this, cutT0]; rfl
  rw [m0]
  generalize blockL w f = F
  generalize blockL w g = G
  have c1 : F ++ ([32] ++ (G ++ T)) = (F ++ [32]) ++ (G ++ T) := by simp
  have c2 : F.length + 1 = (F ++ [32]).length := by simp
  have x1 := cutM (F ++ [32]) (G ++ T) 0 G.length
  rw [Nat.add_zero] at x1
  rw [c1, c2, x1, cutD, cutT0, cutD0]
  simp

theorem deed_is {w : Nat} {fs fs' : List File} {page' : List Nat} (h0 : fs ≠ []) (h : DeedR w fs (pageL w fs) fs' page') : page' = pageL w fs' := by
  cases h with
  | come i m h1 h2 h3 => exact come_is h0 h2
  | go i h1 h2 => exact go_is h1 h2
  | change i f h1 h2 => exact change_is h1 h2
  | lose i p c f h1 h2 => exact lose_is h1 h2
  | turn i b f h1 h2 => exact turn_is h1 h2
  | put i p c f h1 h2 h3 => exact put_is h1 h2

end Mine

end
section
open PySem PySem.W PySem.Calls PyProof.Rows
set_option maxRecDepth 100000
namespace Mine

def okI (i : Nat) (fs : List File) : Prop := 1 ≤ fs.length ∧ fs.length ≤ 4 ∧ ∀ f ∈ fs, f.1 < 65536 ∧ f.2.length ≤ 2 + i

theorem okI.up {i : Nat} {fs : List File} (h : okI i fs) : okI (i + 1) fs := ⟨h.1, h.2.1, fun f hf => ⟨(h.2.2 f hf).1, by have := (h.2.2 f hf).2; omega⟩⟩

theorem okI.set {i j : Nat} {fs : List File} {g : File} (h : okI i fs) (hg : g.1 < 65536 ∧ g.2.length ≤ 2 + i) : okI i (fs.set j g) :=
  ⟨by rw [List.length_set]; exact h.1, by rw [List.length_set]; exact h.2.1, fun f hf => by
    rcases List.mem_or_eq_of_mem_set hf with hf | rfl
    · exact h.2.2 f hf
    · exact hg⟩

theorem deed_ok {w i : Nat} {fs fs' : List File} {page page' : List Nat} (h : okI i fs) (D : DeedR w fs page fs' page') : okI (i + 1) fs' := by
  have hu := h.up
  cases D with
  | come j m h1 h2 h3 =>
    refine ⟨by simp; omega, by simp; omega, fun f hf => ?_⟩
    rcases List.mem_append.mp hf with hf | hf
    · exact hu.2.2 f (List.mem_of_mem_take hf)
    · rcases List.mem_cons.mp hf with rfl | hf
      · exact ⟨h3, by simp⟩
      · exact hu.2.2 f (List.mem_of_mem_drop hf)
  | go j h1 h2 =>
    have := h.2.1
    refine ⟨by rw [List.length_eraseIdx_of_lt h2]; omega, by rw [List.length_eraseIdx_of_lt h2]; omega, fun f hf => hu.2.2 f (List.mem_of_mem_eraseIdx hf)⟩
  | change j g h1 h2 =>
    have := h.2.1
    refine ⟨by simp; omega, by simp [List.length_eraseIdx_of_lt h1]; omega, fun f hf => ?_⟩
    rcases List.mem_append.mp hf with hf | hf
    · exact hu.2.2 f (List.mem_of_mem_eraseIdx (List.mem_of_mem_take hf))
    · rcases List.mem_cons.mp hf with rfl | hf
      · exact hu.2.2 _ (List.mem_of_getElem? h2)
      · exact hu.2.2 f (List.mem_of_mem_eraseIdx (List.mem_of_mem_drop hf))
  | lose j p c f h1 h2 =>
    have := h.2.2 f (List.mem_of_getElem? h1)
    refine hu.set ⟨this.1, ?_⟩
    show (leftN f.2 p).length ≤ _
    unfold leftN; simp only [List.length_append, List.length_take, List.length_drop]; omega
  | turn j b f h1 h2 =>
    have := h.2.2 f (List.mem_of_getElem? h1)
    refine hu.set ⟨newM_lt this.1 h2, ?_⟩
    show f.2.length ≤ _
    omega
  | put j p c f h1 h2 h3 =>
    have := h.2.2 f (List.mem_of_getElem? h1)
    refine hu.set ⟨this.1, ?_⟩
    show (f.2.take p ++ [c] ++ f.2.drop p).length ≤ _
    simp only [List.length_append, List.length_take, List.length_drop, List.length_cons, List.length_nil]; omega

theorem glue_len {b : Nat} : ∀ {ls : List (List Nat)}, (∀ l ∈ ls, l.length ≤ b) → (glue [32] ls).length ≤ ls.length * (b + 1)
  | [], _ => by simp [glue]
  | [x], h => by have := h x (.head _); simp [glue]; omega
  | x :: y :: r, h => by
    have h1 := h x (.head _)
    have h2 := glue_len (ls := y :: r) fun l hl => h l (.tail _ hl)
    have e : (glue [32] (x :: y :: r)).length = x.length + 1 + (glue [32] (y :: r)).length := by
      show (x ++ [32] ++ glue [32] (y :: r)).length = _
      simp; omega
    rw [e, List.length_cons, Nat.add_mul]; omega

theorem wide_le (w : Nat) (l : List Nat) : wideL w l ≤ 2 + 15 * l.length := by
  have := sumSp_le w l
  unfold sumSp at this
  unfold wideL; split <;> omega
theorem sum_le {b : Nat} : ∀ {l : List Nat}, (∀ x ∈ l, x ≤ b) → l.sum ≤ l.length * b
  | [], _ => by simp
  | x :: r, h => by
    have h1 := h x (.head _)
    have h2 := sum_le (l := r) fun y hy => h y (.tail _ hy)
    rw [List.sum_cons, List.length_cons, Nat.add_mul]; omega
theorem page_len {w i : Nat} {fs : List File} (h : okI i fs) (hi : i ≤ 10) : (pageL w fs).length ≤ 1000 := by
  have h0 : fs ≠ [] := fun e => by have := h.1; rw [e] at this; simp at this
  have hp := congrArg List.length (page_cat w fs h0)
  rw [List.length_append, cat_len] at hp
  have := sum_le (b := 200) (l := fs.map (partN w)) fun x hx => by
    obtain ⟨f, hf, rfl⟩ := List.mem_map.mp hx
    have := (h.2.2 f hf).2
    have := wide_le w f.2
    unfold partN; split <;> omega
  rw [List.length_map] at this
  have := h.2.1
  simp only [List.length_cons, List.length_nil] at hp
  omega

theorem words_take {fs : List File} {j : Nat} {f : File} (h : fs[j]? = some f) : wordsL (fs.take (j + 1)) = wordsL (fs.take j) ++ [fmL f.1, f.2] := by
  unfold wordsL
  rw [List.take_add_one, h, List.flatMap_append]; rfl
theorem fmL_len (m : Nat) : (fmL m).length = 10 := by simp [fmL, rows]
theorem words_len (fs : List File) : (wordsL fs).length = 2 * fs.length := by
  unfold wordsL
  induction fs with
  | nil => rfl
  | cons f r ih => rw [List.flatMap_cons, List.length_append, ih, List.length_cons]; simp; omega
theorem words_mem {i : Nat} {fs : List File} (h : okI i fs) (hi : i ≤ 10) : ∀ l ∈ wordsL fs, l.length ≤ 12 := fun l hl => by
  unfold wordsL at hl
  obtain ⟨f, hf, hl⟩ := List.mem_flatMap.mp hl
  have := (h.2.2 f hf).2
  rcases List.mem_cons.mp hl with rfl | hl
  · rw [fmL_len]; omega
  · rw [List.mem_singleton.mp hl]; omega

def strV (l : List Nat) : V := .str (S l)

theorem ints_ne {ns : List Int} {ks : List Nat} (h : ks ≠ []) : ns.map V.int ≠ ks.map V.ref := fun e => by
  cases ns with
  | nil =>
    cases ks with
    | nil => exact h rfl
    | cons k r => cases e
  | cons n r =>
    cases ks with
    | nil => exact h rfl
    | cons k r => cases e
theorem ints_ne2 {ns : List Int} {m : Int} {x : Str} : ns.map V.int ≠ [.int m, .str x] := fun e => by
  cases ns with
  | nil => cases e
  | cons n r =>
    cases r with
    | nil => cases e
    | cons n' r => cases e

set_option maxHeartbeats 4000000 in
theorem law_rest {B : Wd} {n : Nat} {q : Str} {f : Addr} {cd : Value} {L : Addr} {v0 : V} (T : Top B) {ns : List Int} {H : List O} {kn : Nat} (hns : ns.length ≤ 8) (hkn : H[kn]? = some (.list (ns.map V.int))) :
    FW B (n + 6) (fenv lawS q f cd L) (execs (lawB.drop 1) (fenv lawS q f cd L)) (upd (locOf ["script"] [v0]) "numbers" (.ref kn)) H fun fl _ _ => fl = .ret (.bool true) := by
  have hsl : sizeLine = 16777216 := rfl
  have gsum : Glob B "sum" (.builtin "sum") := globB (T.bi _ (by simp)) (by decide) (by rfl)
  obtain ⟨ft, hft, Ft⟩ := T.tab
  obtain ⟨fd, hfd, Fd⟩ := T.deed
  obtain ⟨fm, hfm, Fm⟩ := T.fmode
  obtain ⟨fw, hfw, Fw⟩ := T.wby
  obtain ⟨fj, hfj, Fj, _⟩ := T.join
  have hints : intsOf (ns.map V.int) = some ns := by
    clear hns hkn
    induction ns with
    | nil => rfl
    | cons a r ih => simp only [List.map_cons]; unfold intsOf; rw [ih]; rfl
  refine SW.cons <| ST.assign T.there <| EW.binop <| EW.call T.ok gsum (.builtin _) <| EWs.cons <| EW.name rfl <| EWs.nil <| CW.sum hkn hints <| EW.cint <| PW2.modI 5 (by decide) fun w hw => ?_
  refine SW.cons <| ST.assign T.there <| EW.call T.ok (.top hft) Ft.callee <| EWs.cons <| EW.name rfl <| EWs.nil <| CW.mono (CW.lift (tab_call (n := 0) T hft hw) (by omega)) fun v H1 hv => ?_
  obtain ⟨rfl, rfl⟩ := hv
  have hkt : (H ++ [O.dict (dictOf (tabD w))])[H.length]? = some (.dict (dictOf (tabD w))) := get_last H _
  have hkn1 : (H ++ [O.dict (dictOf (tabD w))])[kn]? = some (.list (ns.map V.int)) := getElem?_app hkn
  generalize H.length = kt at *
  generalize H ++ [O.dict (dictOf (tabD w))] = H1 at *
  refine SW.cons <| ST.assign T.there <| EW.list <| EWs.cons <| EW.list <| EWs.cons <| EW.cint <| EWs.cons <| EW.cstr <| EWs.nil ⟨by simp; exact (by decide : 2 ≤ sizeLine), EWs.nil ⟨by simp; exact (by decide : 1 ≤ sizeLine), ?_⟩⟩
  have hF0 : Files (H1 ++ [O.list [.int 33188, .str (Str.ofString "it")]] ++ [O.list [.ref H1.length]]) (H1 ++ [O.list [.int 33188, .str (Str.ofString "it")]]).length [H1.length] [(33188, [105, 116])] := by
    refine ⟨get_last _ _, rfl, by simp, by simp, fun i g k hg hk => ?_⟩
    cases i with
    | zero =>
      simp at hg hk
      subst hg hk
      rw [List.append_assoc]
      simp
      rfl
    | succ i => simp at hg
  have hkt2 : (H1 ++ [O.list [.int 33188, .str (Str.ofString "it")]] ++ [O.list [.ref H1.length]])[kt]? = some (.dict (dictOf (tabD w))) := getElem?_app (getElem?_app hkt)
  have hkn2 : (H1 ++ [O.list [.int 33188, .str (Str.ofString "it")]] ++ [O.list [.ref H1.length]])[kn]? = some (.list (ns.map V.int)) := getElem?_app (getElem?_app hkn1)
  generalize (H1 ++ [O.list [.int 33188, .str (Str.ofString "it")]]).length = kf at *
  generalize H1 ++ [O.list [.int 33188, .str (Str.ofString "it")]] ++ [O.list [.ref H1.length]] = H2 at *
  refine SW.cons <| ST.assign T.there <| EW.cstr ?_
  have hpage : Str.ofString "-rw-r--r-- it" = S (pageL w [(33188, [105, 116])]) := by
    have : pageL w [(33188, [105, 116])] = [45, 114, 119, 45, 114, 45, 45, 114, 45, 45, 32, 105, 116] := by
      show blockL w (33188, [105, 116]) = _
      unfold blockL
      rw [name_bare (show bareL [105, 116] = true by decide +kernel)]
      have : rowL 33188 = [45, 114, 119, 45, 114, 45, 45, 114, 45, 45] := by decide +kernel
      rw [this]; rfl
    rw [this]; rfl
  rw [hpage]
  refine SW.cons <| ST.for T.there <| EW.name rfl ?_
  refine ⟨ns.map V.int, fun H' => H'[kn]? = some (.list (ns.map V.int)), fun i loc H' => i ≤ 8 ∧ loc "which" = some (.int (w : Int)) ∧ loc "table" = some (.ref kt) ∧ loc "files" = some (.ref kf) ∧ H'[kn]? = some (.list (ns.map V.int)) ∧ H'[kt]? = some (.dict (dictOf (tabD w))) ∧ ∃ ks fs, Files H' kf ks fs ∧ okI i fs ∧ loc "page" = some (.str (S (pageL w fs))),
    IT.list hkn2, ⟨by omega, rfl, rfl, rfl, hkn2, hkt2, _, _, hF0, ⟨by simp, by simp, fun g hg => ?_⟩, rfl⟩, fun i loc H' h => h.2.2.2.2.1, ?_, ?_⟩
  · rw [List.mem_singleton.mp hg]; exact ⟨by decide, by simp⟩
  · rintro i v loc H3 hv ⟨hi, l1, l2, l3, h1, h2, ks, fs, FF, hok, lp⟩
    have hin : i < ns.length := by have := (List.getElem?_eq_some_iff.mp hv).1; rwa [List.length_map] at this
    obtain ⟨x, rfl⟩ : ∃ x, v = .int x := by
      rw [List.getElem?_map, List.getElem?_eq_getElem hin] at hv
      exact ⟨_, (Option.some.inj hv).symm⟩
    have hne : fs ≠ [] := fun e => by have := hok.1; rw [e] at this; simp at this
    have hks : ks ≠ [] := fun e => by have := FF.len; rw [e] at this; exact hne (List.length_eq_zero_iff.mp this.symm)
    have kn1 : kn ≠ kf := fun e => by
      have := FF.l
      rw [← e, h1] at this
      injection this with this
      injection this with this
      exact ints_ne hks this
    have kn2 : kn ∉ ks := fun hm => by
      obtain ⟨j, hj, ej⟩ := List.getElem_of_mem hm
      have hl := FF.len
      have := FF.at_ j (fs[j]'(by omega)) kn (List.getElem?_eq_getElem _) (by rw [← ej]; exact List.getElem?_eq_getElem _)
      rw [h1] at this
      injection this with this
      injection this with this
      exact ints_ne2 this
    have kt1 : kt ≠ kf := fun e => by have := FF.l; rw [← e, h2] at this; cases this
    have kt2 : kt ∉ ks := fun hm => by
      obtain ⟨j, hj, ej⟩ := List.getElem_of_mem hm
      have hl := FF.len
      have := FF.at_ j (fs[j]'(by omega)) kt (List.getElem?_eq_getElem _) (by rw [← ej]; exact List.getElem?_eq_getElem _)
      rw [h2] at this; cases this
    have hof : okFs fs := ⟨hok.1, hok.2.1, fun g hg => ⟨(hok.2.2 g hg).1, by have := (hok.2.2 g hg).2; omega⟩⟩
    refine AW.name T.there ?_
    have e1 : upd loc "x" (V.int x) "page" = some (.str (S (pageL w fs))) := lp
    have e2 : upd loc "x" (V.int x) "files" = some (.ref kf) := l3
    have e3 : upd loc "x" (V.int x) "x" = some (.int x) := rfl
    have e4 : upd loc "x" (V.int x) "table" = some (.ref kt) := l2
    have e5 : upd loc "x" (V.int x) "which" = some (.int (w : Int)) := l1
    generalize upd loc "x" (V.int x) = loc1 at *
    clear l1 l2 l3 lp
    refine SW.cons <| ST.assign T.there <| EW.call T.ok (.top hfd) Fd.callee <| EWs.cons <| EW.name e1 <| EWs.cons <| EW.name e2 <| EWs.cons <| EW.name e3 <| EWs.cons <| EW.name e4 <| EWs.nil <| CW.mono (deed_call T hfd h2 FF hof (by have := page_len (w := w) hok (by omega); omega)) fun v H4 hv => ?_
    obtain ⟨fs', page', ks', rfl, hD, FF', hkeep⟩ := hv
    have hok' := deed_ok hok hD
    obtain rfl := deed_is hne hD
    have h1' := hkeep kn _ kn1 kn2 h1
    have h2' := hkeep kt _ kt1 kt2 h2
    clear hkeep hD FF hok hof h1 h2 kn1 kn2 kt1 kt2 hne hks e1 e3
    have e1 : upd loc1 "page" (V.str (S (pageL w fs'))) "page" = some (.str (S (pageL w fs'))) := rfl
    have e2 : upd loc1 "page" (V.str (S (pageL w fs'))) "files" = some (.ref kf) := e2
    have e4 : upd loc1 "page" (V.str (S (pageL w fs'))) "table" = some (.ref kt) := e4
    have e5 : upd loc1 "page" (V.str (S (pageL w fs'))) "which" = some (.int (w : Int)) := e5
    generalize upd loc1 "page" (V.str (S (pageL w fs'))) = loc2 at *
    refine SW.cons <| ST.assign T.there <| EW.list <| EWs.nil ⟨by decide, ?_⟩
    have e6 : upd loc2 "words" (.ref H4.length) "words" = some (.ref H4.length) := rfl
    have e1 : upd loc2 "words" (.ref H4.length) "page" = some (.str (S (pageL w fs'))) := e1
    have e2 : upd loc2 "words" (.ref H4.length) "files" = some (.ref kf) := e2
    have e4 : upd loc2 "words" (.ref H4.length) "table" = some (.ref kt) := e4
    have e5 : upd loc2 "words" (.ref H4.length) "which" = some (.int (w : Int)) := e5
    generalize upd loc2 "words" (.ref H4.length) = loc3 at *
    have hwl := words_len fs'
    have hfl := hok'.2.1
    have hkl := FF'.len
    have hget : ∀ (ws : List V) (G : List O), (H4 ++ O.list ws :: G)[H4.length]? = some (.list ws) := fun ws G => by simp
    refine SW.cons <| ST.for T.there <| EW.name e2 ?_
    refine ⟨ks'.map V.ref, fun H' => H'[kf]? = some (.list (ks'.map V.ref)), fun j loc H' => loc "which" = some (.int (w : Int)) ∧ loc "table" = some (.ref kt) ∧ loc "files" = some (.ref kf) ∧ loc "page" = some (.str (S (pageL w fs'))) ∧ loc "words" = some (.ref H4.length) ∧ ∃ G, H' = H4 ++ O.list ((wordsL (fs'.take j)).map strV) :: G,
      IT.list (getElem?_app FF'.l), ⟨e5, e4, e2, e1, e6, [], rfl⟩, ?_, ?_, ?_⟩
    · rintro j loc H' ⟨_, _, _, _, _, G, rfl⟩
      exact getElem?_app FF'.l
    · rintro j v loc H5 hv ⟨m1, m2, m3, m4, m5, G, rfl⟩
      have hj : j < ks'.length := by have := (List.getElem?_eq_some_iff.mp hv).1; rwa [List.length_map] at this
      have hkj : ks'[j]? = some ks'[j] := List.getElem?_eq_getElem hj
      have hfj : fs'[j]? = some (fs'[j]'(by omega)) := List.getElem?_eq_getElem _
      obtain rfl : v = .ref ks'[j] := by
        rw [List.getElem?_map, hkj] at hv
        exact (Option.some.inj hv).symm
      have hat := getElem?_app (m := O.list ((wordsL (fs'.take j)).map strV) :: G) (FF'.at_ j _ _ hfj hkj)
      have hfmem := hok'.2.2 _ (List.mem_of_getElem? hfj)
      generalize fs'[j]'(by omega) = g at *
      obtain ⟨m, nm⟩ := g
      refine AW.pair T.there hat ?_
      have w1 : upd (upd loc "mode" (.int (m : Int))) "name" (.str (S nm)) "words" = some (.ref H4.length) := m5
      have w2 : upd (upd loc "mode" (.int (m : Int))) "name" (.str (S nm)) "mode" = some (.int (m : Int)) := rfl
      have w3 : upd (upd loc "mode" (.int (m : Int))) "name" (.str (S nm)) "name" = some (.str (S nm)) := rfl
      have hwj : (wordsL (fs'.take j)).length ≤ 8 := by rw [words_len, List.length_take]; omega
      refine SW.cons <| ST.expr <| EW.meth PySem.F.plainAttrs_list PySem.F.slot_list_extend PySem.F.type_list_extend <| EW.name w1 ⟨⟨_, hget _ _, rfl⟩, EWs.cons <| EW.list <| EWs.cons <| EW.call T.ok (.top hfm) Fm.callee <| EWs.cons <| EW.name w2 <| EWs.nil <| CW.mono (CW.lift (fmode_call (n := 0) T hfm) (by omega)) fun v H6 hv => ?_⟩
      obtain ⟨rfl, e⟩ := hv; obtain rfl := e.symm
      refine EWs.cons <| EW.name w3 <| EWs.nil ⟨by simp; exact (by decide : 2 ≤ sizeLine), EWs.nil <| CW.extend T.there (getElem?_app (hget _ _)) (get_last _ _) (by rw [List.length_map]; simp; omega) ?_⟩
      refine SW.nil ⟨m1, m2, m3, m4, m5, G ++ [O.list [.str (S (fmL m)), .str (S nm)]], ?_⟩
      rw [List.append_assoc, List.cons_append, List.set_append_right _ _ (Nat.le_refl _), Nat.sub_self, List.set_cons_zero, words_take hfj, List.map_append]
      rfl
    · rintro loc H5 ⟨m1, m2, m3, m4, m5, G, rfl⟩
      refine SW.nil ?_
      have htk : fs'.take (ks'.map V.ref).length = fs' := List.take_of_length_le (by rw [List.length_map]; omega)
      rw [htk]
      have hmem := words_mem hok' (by omega)
      have hql : ∀ l ∈ (wordsL fs').map quoteL, l.length ≤ 62 := fun l hl => by
        obtain ⟨l', hl', rfl⟩ := List.mem_map.mp hl
        have := quoteL_len l'
        have := hmem l' hl'
        omega
      have hgl := glue_len hql
      rw [List.length_map] at hgl
      refine SW.cons <| ST.ite <| TW.compare <| EW.call T.ok (.top hfw) Fw.callee <| EWs.cons <| EW.name m1 <| EWs.cons <| EW.call T.ok (.top hfj) Fj.callee <| EWs.cons <| EW.name m5 <| EWs.nil <| CW.mono (CW.lift (join_call (n := 0) (ls := wordsL fs') T hfj (hget _ _) (fun l hl => by have := hmem l hl; omega) (by omega)) (by omega)) fun v H6 hv => ?_
      obtain ⟨rfl, e⟩ := hv; obtain rfl := e.symm
      refine EWs.nil <| CW.mono (CW.lift (wby_call (n := 0) T hfw hw (by omega)) (by omega)) fun v H6 hv => ?_
      obtain ⟨rfl, e⟩ := hv; obtain rfl := e.symm
      rw [page_is fun g hg => (hok'.2.2 g hg).1]
      refine EW.name m4 <| PW2.nes <| TV.bool ?_
      rw [show (S (pageL w fs') != S (pageL w fs')) = false by simp]
      refine SW.nil <| SW.nil ⟨by omega, m1, m2, m3, getElem?_app h1', getElem?_app h2', ks', fs', FF'.app _, hok', m4⟩
  · rintro loc H3 _
    refine SW.nil ?_
    exact SW.cons <| ST.ret <| EW.cbool rfl

set_option maxHeartbeats 1000000 in
theorem law_call {B : Wd} {n : Nat} {f a : Addr} {is : List Int} (T : Top B.tick) (ht : B.t0 ≤ 1) (F : Fn B f ["script"] lawB lawS) (X : XL B.tick a is) (hl : is.length ≤ 63) :
    CW B (n + 7) (.ref f) [.ext a] [] fun v _ => v = .bool true := by
  have hsl : sizeLine = 16777216 := rfl
  have W : B.Ok := ⟨T.ok.g, T.ok.b, T.ok.nolimit, T.ok.builtins, T.ok.bmain, T.ok.pg, T.ok.pb, T.ok.ps, T.ok.pc⟩
  refine CW.def1 W ⟨T.there.c, T.there.P⟩ ht F rfl (fun q cd L => ?_) (by decide +kernel) (by decide +kernel)
  have fin : ∀ (fl : Fl) (loc' : Loc) (H' : List O), fl = Fl.ret (.bool true) → ∃ (loc2 : Loc) (H2 G : List O), H' = H2 ++ G ∧ ([] : List O).length ≤ H2.length ∧ (∀ o ∈ H2, o.Closed H2.length) ∧ (∀ x v, loc2 x = some v → loc' x = some v) ∧ LocClosed loc2 H2.length ∧ fl.Closed H2.length ∧ (∃ v, fl = .ret v ∧ H2 = [] ∧ v.Closed ([] : List O).length ∧ v = .bool true) := fun fl loc' H' e => by
    subst e
    exact ⟨fun _ => none, [], H', rfl, Nat.le_refl _, fun o h => (by cases h), fun x v h => (by cases h), fun x k h => (by cases h), fun k e => (by cases e), _, rfl, rfl, fun k e => (by cases e), rfl⟩
  refine FW.gc (FW.mono ?_ fin)
  refine SW.cons <| ST.assign T.there <| EW.ifexp <| TW.compare <| EW.name rfl <| EW.list <| EWs.nil ⟨by decide, PW2.neNilX X rfl <| TV.bool ?_⟩
  cases hc : !is.isEmpty with
  | true =>
    refine EW.sliceX <| EW.name rfl <| EW.cint ⟨a, is, 8, rfl, X, rfl, by decide, by omega, ?_⟩
    exact law_rest T (by rw [List.length_take]; exact Nat.min_le_left _ _) (get_last _ _)
  | false =>
    refine EW.ints (is := [1, 72, 3, 8]) rfl (by decide) ?_
    exact law_rest T (by decide) (get_last _ _)
end Mine

end
section
open PySem PySem.W PyProof.Rows
namespace Mine01
set_option maxRecDepth 100000
set_option maxHeartbeats 8000000
open_top hd for PySem.Challenge.rw_op0104_01
end Mine01

end
section
open PySem PySem.W PySem.Calls PyProof.Rows
set_option maxRecDepth 100000
namespace Mine
theorem neq {a b : Nat} (h : Nat.beq a b = false) : a ≠ b := fun e => by subst e; rw [Nat.beq_refl] at h; cases h
/-- a def, as the written heap holds it -/
def FnAt (K : Frag) (f c : Addr) (names : List Str) (body : List Stmt) (S : Scope) : Prop := ∃ o fd oc vs t, K.lookup f = some o ∧ o.data = .func fd ∧ fd.scope = S ∧ fd.body = .stmts body ∧ fd.closure = [] ∧ fd.globals = mainGlobals ∧ fd.builtins = builtinsNs ∧ fd.code = .ref c ∧
  K.lookup c = some oc ∧ oc.data = .fields vs ∧ vs[1]? = some (.str fd.qualname t) ∧ ∀ vals : List Value, vals.length = names.length → bindArgs fd ⟨vals, []⟩ = pure (names.zip vals)
theorem FnAt.fn {B : Wd} {K : Frag} {f c names body S} (h : FnAt K f c names body S) (KX : K.In B.hb) (hf : f ≠ B.P) (hc : c ≠ B.P) : Fn B f names body S := by
  obtain ⟨o, fd, oc, vs, t, h1, h2, h3, h4, h5, h6, h7, h8, h9, h10, h11, h12⟩ := h
  exact ⟨⟨o, fd, KX _ _ h1, h2, h3, h4, h5, h6, h7, ⟨c, oc, vs, t, h8, hc, KX _ _ h9, h10, h11⟩, h12⟩, hf⟩
theorem FnAt.code {B : Wd} {K : Frag} {f c names body S} (h : FnAt K f c names body S) (KX : K.In B.hb) : ∀ o fd, B.hb.get? f = some o → o.data = .func fd → fd.code = .ref c := by
  obtain ⟨o, fd, oc, vs, t, h1, h2, h3, h4, h5, h6, h7, h8, h9, h10, h11, h12⟩ := h
  intro o' fd' e1 e2
  rw [KX _ _ h1] at e1; cases e1
  rw [h2] at e2; cases e2
  exact h8
theorem mg_is {h : Heap} {mg : Str → Option Value} {K : Frag} (KX : K.In h) (hn : h.Ns mainGlobals mg) {o : Obj} {es n} (e : K.lookup mainGlobals = some o) (ed : o.data = .dict es n) (x : Str) : mg x = nsFind es x := by
  obtain ⟨o', es', ep, h1, h2, _, h3⟩ := hn
  rw [KX _ _ e] at h1; cases h1
  rw [ed] at h2; cases h2
  exact (h3 x).symm
theorem pair_of {B : Wd} {K : Frag} (KX : K.In B.hb) {a : Addr} {p : Nat × Nat} {t u : Tok} {n : Nat} (e : K.lookup a = some { cls := .type "tuple", data := .seq #[.int (p.1 : Int) t, .str (S [p.2]) u] n }) (hP : a ≠ B.P) : PairAt B (.ref a) p :=
  ⟨a, t, u, rfl, ⟨_, KX _ _ e, rfl, n, rfl⟩, hP⟩
theorem row_of {B : Wd} {K : Frag} (KX : K.In B.hb) {a : Addr} {r : List (Nat × Nat)} {n : Nat} (as : List Addr) (e : K.lookup a = some { cls := .type "tuple", data := .seq (as.map Value.ref).toArray n }) (hP : a ≠ B.P) (h : All2 (fun b p => PairAt B (.ref b) p) as r) : RowAt B (.ref a) r :=
  ⟨a, as.map Value.ref, rfl, ⟨_, KX _ _ e, rfl, n, rfl⟩, hP, by rw [List.length_map]; exact h.length, fun i p hp => by
    have hl := h.length
    have hi := (List.getElem?_eq_some_iff.mp hp).1
    have hb : as[i]? = some (as[i]'(by omega)) := List.getElem?_eq_getElem _
    exact ⟨_, by rw [List.getElem?_map, hb]; rfl, h.get hb hp⟩⟩
theorem tbl_of {B : Wd} {K : Frag} (KX : K.In B.hb) {a : Addr} {n : Nat} (as : List Addr) (hm : B.mg "_filemode_table" = some (.ref a)) (e : K.lookup a = some { cls := .type "tuple", dict := none, data := .seq (as.map Value.ref).toArray n, slots := #[] }) (hP : a ≠ B.P) (h : All2 (fun b r => RowAt B (.ref b) r) as rows) : TblAt B :=
  ⟨a, as.map Value.ref, n, hm, KX _ _ e, hP, by rw [List.length_map]; exact h.length, fun i r hr => by
    have hl := h.length
    have hi := (List.getElem?_eq_some_iff.mp hr).1
    have hb : as[i]? = some (as[i]'(by omega)) := List.getElem?_eq_getElem _
    exact ⟨_, by rw [List.getElem?_map, hb]; rfl, h.get hb hr⟩⟩

theorem len1 {l : List Value} (h : l.length = 1) : ∃ v0, l = [v0] := by
  cases l with
  | nil => cases h
  | cons a r => cases r with
    | nil => exact ⟨a, rfl⟩
    | cons b r => cases h
theorem len2 {l : List Value} (h : l.length = 2) : ∃ v0 v1, l = [v0, v1] := by
  cases l with
  | nil => cases h
  | cons a r =>
    obtain ⟨v1, rfl⟩ := len1 (Nat.succ.inj h)
    exact ⟨a, v1, rfl⟩
theorem len3 {l : List Value} (h : l.length = 3) : ∃ v0 v1 v2, l = [v0, v1, v2] := by
  cases l with
  | nil => cases h
  | cons a r =>
    obtain ⟨v1, v2, rfl⟩ := len2 (Nat.succ.inj h)
    exact ⟨a, v1, v2, rfl⟩
theorem len4 {l : List Value} (h : l.length = 4) : ∃ v0 v1 v2 v3, l = [v0, v1, v2, v3] := by
  cases l with
  | nil => cases h
  | cons a r =>
    obtain ⟨v1, v2, v3, rfl⟩ := len3 (Nat.succ.inj h)
    exact ⟨a, v1, v2, v3, rfl⟩
theorem len5 {l : List Value} (h : l.length = 5) : ∃ v0 v1 v2 v3 v4, l = [v0, v1, v2, v3, v4] := by
  cases l with
  | nil => cases h
  | cons a r =>
    obtain ⟨v1, v2, v3, v4, rfl⟩ := len4 (Nat.succ.inj h)
    exact ⟨a, v1, v2, v3, v4, rfl⟩
theorem len6 {l : List Value} (h : l.length = 6) : ∃ v0 v1 v2 v3 v4 v5, l = [v0, v1, v2, v3, v4, v5] := by
  cases l with
  | nil => cases h
  | cons a r =>
    obtain ⟨v1, v2, v3, v4, v5, rfl⟩ := len5 (Nat.succ.inj h)
    exact ⟨a, v1, v2, v3, v4, v5, rfl⟩
theorem at_join (P : Params) : FnAt (Mine01.hd.heap_39 P) 43 42 ["split_command"] joinB joinS := by
  refine ⟨_, _, _, _, _, rfl, rfl, rfl, rfl, rfl, rfl, rfl, rfl, rfl, rfl, rfl, fun vals h => ?_⟩
  obtain ⟨v0, rfl⟩ := len1 h
  rfl
theorem at_quote (P : Params) : FnAt (Mine01.hd.heap_39 P) 51 50 ["s"] quoteB quoteS := by
  refine ⟨_, _, _, _, _, rfl, rfl, rfl, rfl, rfl, rfl, rfl, rfl, rfl, rfl, rfl, fun vals h => ?_⟩
  obtain ⟨v0, rfl⟩ := len1 h
  rfl
theorem at_ifmt (P : Params) : FnAt (Mine01.hd.heap_39 P) 58 57 ["mode"] ifmtB ifmtS := by
  refine ⟨_, _, _, _, _, rfl, rfl, rfl, rfl, rfl, rfl, rfl, rfl, rfl, rfl, rfl, fun vals h => ?_⟩
  obtain ⟨v0, rfl⟩ := len1 h
  rfl
theorem at_fmode (P : Params) : FnAt (Mine01.hd.heap_39 P) 98 97 ["mode"] fmodeB fmodeS := by
  refine ⟨_, _, _, _, _, rfl, rfl, rfl, rfl, rfl, rfl, rfl, rfl, rfl, rfl, rfl, fun vals h => ?_⟩
  obtain ⟨v0, rfl⟩ := len1 h
  rfl
theorem at_esc0 (P : Params) : FnAt (Mine01.hd.heap_39 P) 119 118 ["text"] esc0B esc0S := by
  refine ⟨_, _, _, _, _, rfl, rfl, rfl, rfl, rfl, rfl, rfl, rfl, rfl, rfl, rfl, fun vals h => ?_⟩
  obtain ⟨v0, rfl⟩ := len1 h
  rfl
theorem at_esc1 (P : Params) : FnAt (Mine01.hd.heap_39 P) 140 139 ["text"] esc1B esc1S := by
  refine ⟨_, _, _, _, _, rfl, rfl, rfl, rfl, rfl, rfl, rfl, rfl, rfl, rfl, rfl, fun vals h => ?_⟩
  obtain ⟨v0, rfl⟩ := len1 h
  rfl
theorem at_esc2 (P : Params) : FnAt (Mine01.hd.heap_39 P) 126 125 ["text"] esc2B esc2S := by
  refine ⟨_, _, _, _, _, rfl, rfl, rfl, rfl, rfl, rfl, rfl, rfl, rfl, rfl, rfl, fun vals h => ?_⟩
  obtain ⟨v0, rfl⟩ := len1 h
  rfl
theorem at_esc3 (P : Params) : FnAt (Mine01.hd.heap_39 P) 112 111 ["text"] esc3B esc3S := by
  refine ⟨_, _, _, _, _, rfl, rfl, rfl, rfl, rfl, rfl, rfl, rfl, rfl, rfl, rfl, fun vals h => ?_⟩
  obtain ⟨v0, rfl⟩ := len1 h
  rfl
theorem at_esc4 (P : Params) : FnAt (Mine01.hd.heap_39 P) 133 132 ["text"] esc4B esc4S := by
  refine ⟨_, _, _, _, _, rfl, rfl, rfl, rfl, rfl, rfl, rfl, rfl, rfl, rfl, rfl, fun vals h => ?_⟩
  obtain ⟨v0, rfl⟩ := len1 h
  rfl
theorem at_wby (P : Params) : FnAt (Mine01.hd.heap_39 P) 247 246 ["which", "line"] wbyB wbyS := by
  refine ⟨_, _, _, _, _, rfl, rfl, rfl, rfl, rfl, rfl, rfl, rfl, rfl, rfl, rfl, fun vals h => ?_⟩
  obtain ⟨v0, v1, rfl⟩ := len2 h
  rfl
theorem at_tab (P : Params) : FnAt (Mine01.hd.heap_39 P) 147 146 ["which"] tabB tabS := by
  refine ⟨_, _, _, _, _, rfl, rfl, rfl, rfl, rfl, rfl, rfl, rfl, rfl, rfl, rfl, fun vals h => ?_⟩
  obtain ⟨v0, rfl⟩ := len1 h
  rfl
theorem at_sign (P : Params) : FnAt (Mine01.hd.heap_39 P) 154 153 ["x"] signB signS := by
  refine ⟨_, _, _, _, _, rfl, rfl, rfl, rfl, rfl, rfl, rfl, rfl, rfl, rfl, rfl, fun vals h => ?_⟩
  obtain ⟨v0, rfl⟩ := len1 h
  rfl
theorem at_bare (P : Params) : FnAt (Mine01.hd.heap_39 P) 159 158 ["word"] bareB bareS := by
  refine ⟨_, _, _, _, _, rfl, rfl, rfl, rfl, rfl, rfl, rfl, rfl, rfl, rfl, rfl, fun vals h => ?_⟩
  obtain ⟨v0, rfl⟩ := len1 h
  rfl
theorem at_spel (P : Params) : FnAt (Mine01.hd.heap_39 P) 166 165 ["sign", "table"] spelB spelS := by
  refine ⟨_, _, _, _, _, rfl, rfl, rfl, rfl, rfl, rfl, rfl, rfl, rfl, rfl, rfl, fun vals h => ?_⟩
  obtain ⟨v0, v1, rfl⟩ := len2 h
  rfl
theorem at_wide (P : Params) : FnAt (Mine01.hd.heap_39 P) 171 170 ["name", "table"] wideB wideS := by
  refine ⟨_, _, _, _, _, rfl, rfl, rfl, rfl, rfl, rfl, rfl, rfl, rfl, rfl, rfl, fun vals h => ?_⟩
  obtain ⟨v0, v1, rfl⟩ := len2 h
  rfl
theorem at_know (P : Params) : FnAt (Mine01.hd.heap_39 P) 178 177 ["mode"] knowB knowS := by
  refine ⟨_, _, _, _, _, rfl, rfl, rfl, rfl, rfl, rfl, rfl, rfl, rfl, rfl, rfl, fun vals h => ?_⟩
  obtain ⟨v0, rfl⟩ := len1 h
  rfl
theorem at_star (P : Params) : FnAt (Mine01.hd.heap_39 P) 183 182 ["files", "i", "table"] starB starS := by
  refine ⟨_, _, _, _, _, rfl, rfl, rfl, rfl, rfl, rfl, rfl, rfl, rfl, rfl, rfl, fun vals h => ?_⟩
  obtain ⟨v0, v1, v2, rfl⟩ := len3 h
  rfl
theorem at_fron (P : Params) : FnAt (Mine01.hd.heap_39 P) 190 189 ["files", "i", "table"] fronB fronS := by
  refine ⟨_, _, _, _, _, rfl, rfl, rfl, rfl, rfl, rfl, rfl, rfl, rfl, rfl, rfl, fun vals h => ?_⟩
  obtain ⟨v0, v1, v2, rfl⟩ := len3 h
  rfl
theorem at_righ (P : Params) : FnAt (Mine01.hd.heap_39 P) 197 196 ["mode", "place"] righB righS := by
  refine ⟨_, _, _, _, _, rfl, rfl, rfl, rfl, rfl, rfl, rfl, rfl, rfl, rfl, rfl, fun vals h => ?_⟩
  obtain ⟨v0, v1, rfl⟩ := len2 h
  rfl
theorem at_turn (P : Params) : FnAt (Mine01.hd.heap_39 P) 204 203 ["page", "files", "i", "bit", "table"] turnB turnS := by
  refine ⟨_, _, _, _, _, rfl, rfl, rfl, rfl, rfl, rfl, rfl, rfl, rfl, rfl, rfl, fun vals h => ?_⟩
  obtain ⟨v0, v1, v2, v3, v4, rfl⟩ := len5 h
  rfl
theorem at_put (P : Params) : FnAt (Mine01.hd.heap_39 P) 209 208 ["page", "files", "i", "p", "sign", "table"] putB putS := by
  refine ⟨_, _, _, _, _, rfl, rfl, rfl, rfl, rfl, rfl, rfl, rfl, rfl, rfl, rfl, fun vals h => ?_⟩
  obtain ⟨v0, v1, v2, v3, v4, v5, rfl⟩ := len6 h
  rfl
theorem at_lose (P : Params) : FnAt (Mine01.hd.heap_39 P) 214 213 ["page", "files", "i", "p", "table"] loseB loseS := by
  refine ⟨_, _, _, _, _, rfl, rfl, rfl, rfl, rfl, rfl, rfl, rfl, rfl, rfl, rfl, fun vals h => ?_⟩
  obtain ⟨v0, v1, v2, v3, v4, rfl⟩ := len5 h
  rfl
theorem at_come (P : Params) : FnAt (Mine01.hd.heap_39 P) 219 218 ["page", "files", "i", "mode", "table"] comeB comeS := by
  refine ⟨_, _, _, _, _, rfl, rfl, rfl, rfl, rfl, rfl, rfl, rfl, rfl, rfl, rfl, fun vals h => ?_⟩
  obtain ⟨v0, v1, v2, v3, v4, rfl⟩ := len5 h
  rfl
theorem at_go (P : Params) : FnAt (Mine01.hd.heap_39 P) 226 225 ["page", "files", "i", "table"] goB goS := by
  refine ⟨_, _, _, _, _, rfl, rfl, rfl, rfl, rfl, rfl, rfl, rfl, rfl, rfl, rfl, fun vals h => ?_⟩
  obtain ⟨v0, v1, v2, v3, rfl⟩ := len4 h
  rfl
theorem at_chan (P : Params) : FnAt (Mine01.hd.heap_39 P) 233 232 ["page", "files", "i", "table"] chanB chanS := by
  refine ⟨_, _, _, _, _, rfl, rfl, rfl, rfl, rfl, rfl, rfl, rfl, rfl, rfl, rfl, fun vals h => ?_⟩
  obtain ⟨v0, v1, v2, v3, rfl⟩ := len4 h
  rfl
theorem at_deed (P : Params) : FnAt (Mine01.hd.heap_39 P) 240 239 ["page", "files", "x", "table"] deedB deedS := by
  refine ⟨_, _, _, _, _, rfl, rfl, rfl, rfl, rfl, rfl, rfl, rfl, rfl, rfl, rfl, fun vals h => ?_⟩
  obtain ⟨v0, v1, v2, v3, rfl⟩ := len4 h
  rfl
theorem at_law (P : Params) : FnAt (Mine01.hd.heap_39 P) 254 253 ["script"] lawB lawS := by
  refine ⟨_, _, _, _, _, rfl, rfl, rfl, rfl, rfl, rfl, rfl, rfl, rfl, rfl, rfl, fun vals h => ?_⟩
  obtain ⟨v0, rfl⟩ := len1 h
  rfl

theorem has_join : ((recsOf Mine01.hd.view_39).any fun d => d.name == ("join" : Str)) = true := by kernel_rfl

/-- what the head tells of the world -/
structure HeadAt (mg mb : Str → Option Value) (h : Heap) : Prop where
  g : h.Ns mainGlobals mg
  b : h.Ns builtinsNs mb
  nolimit : h.NoLimit
  statics : ∃ mc, h.Ns cStatics mc
  builtins : ∀ x : Str, x ≠ "__name__" → mb x = bootBuiltins x
  bmain : ∃ bm ob, mg "__builtins__" = some (.ref bm) ∧ bm ≠ builtinsNs ∧ h.get? bm = some ob ∧ ob.cls = .type "module" ∧ ob.dict = some builtinsNs ∧ ob.data = .plain
  tab : h.IsCode 42 38 #[] ∧ h.TableAt 42 38 #[]

def theWd (prog : Program) (w : World) (s : Shared) (mg mb : Str → Option Value) : Wd := { prog, w, hb := s.heap, os := s.os, mg, mb, c := 42, P := 38, gr := true, t0 := 0, gk := fun g _ => AllBare g, ps0 := #[] }

set_option maxHeartbeats 1000000 in
theorem top_is {prog : Program} {w : World} {s : Shared} {mg mb : Str → Option Value} (T : HeadAt mg mb s.heap) (KX : (Mine01.hd.heap_39 w.params).In s.heap) : Top (theWd prog w s mg mb).tick ∧ Fn (theWd prog w s mg mb) 254 ["script"] lawB lawS ∧ mg "law" = some (.ref 254) := by
  have hm := fun x => mg_is (K := Mine01.hd.heap_39 w.params) KX T.g rfl rfl x
  have hP : s.heap.get? 38 = some { cls := .none, data := .fields #[] } := T.tab.2.2
  have nP : ∀ (a : Addr) (o : Obj), s.heap.get? a = some o → (o.cls ≠ .none ∨ ∀ vs, o.data ≠ .fields vs) → a ≠ 38 := fun a o e h q => by
    subst q
    rw [hP] at e; cases e
    rcases h with h | h
    · exact h rfl
    · exact h _ rfl
  have nsP : ∀ (a : Addr) (m : Str → Option Value), s.heap.Ns a m → a ≠ 38 := fun a m h => by
    obtain ⟨o, es, ep, e, ed, _⟩ := h
    exact nP a o e (.inr fun vs q => by rw [ed] at q; cases q)
  have KX' : (Mine01.hd.heap_39 w.params).In (theWd prog w s mg mb).tick.hb := KX
  obtain ⟨bm, ob, b1, b2, b3, b4, b5, b6⟩ := T.bmain
  obtain ⟨mc, hmc⟩ := T.statics
  have ok : (theWd prog w s mg mb).tick.Ok := ⟨T.g, T.b, T.nolimit, T.builtins, ⟨bm, ob, b1, b2, b3, b4, b5, b6, nP bm ob b3 (.inl (by rw [b4]; nofun))⟩, nsP _ _ T.g, nsP _ _ T.b, nsP _ _ hmc, neq rfl⟩
  have there : (theWd prog w s mg mb).tick.There := ⟨(by obtain ⟨⟨o, _, e, _⟩, _⟩ := T.tab.2; exact ⟨o, e⟩), ⟨_, hP⟩⟩
  have h_join : Has (theWd prog w s mg mb).tick "join" ["split_command"] joinB joinS := ⟨43, (hm _).trans (by rfl), (at_join w.params).fn KX' (neq rfl) (neq rfl)⟩
  have h_quote : Has (theWd prog w s mg mb).tick "quote" ["s"] quoteB quoteS := ⟨51, (hm _).trans (by rfl), (at_quote w.params).fn KX' (neq rfl) (neq rfl)⟩
  have h_ifmt : Has (theWd prog w s mg mb).tick "S_IFMT" ["mode"] ifmtB ifmtS := ⟨58, (hm _).trans (by rfl), (at_ifmt w.params).fn KX' (neq rfl) (neq rfl)⟩
  have h_fmode : Has (theWd prog w s mg mb).tick "filemode" ["mode"] fmodeB fmodeS := ⟨98, (hm _).trans (by rfl), (at_fmode w.params).fn KX' (neq rfl) (neq rfl)⟩
  have h_esc0 : Has (theWd prog w s mg mb).tick "_escape_attrib" ["text"] esc0B esc0S := ⟨119, (hm _).trans (by rfl), (at_esc0 w.params).fn KX' (neq rfl) (neq rfl)⟩
  have h_esc1 : Has (theWd prog w s mg mb).tick "_escape_attrib_c14n" ["text"] esc1B esc1S := ⟨140, (hm _).trans (by rfl), (at_esc1 w.params).fn KX' (neq rfl) (neq rfl)⟩
  have h_esc2 : Has (theWd prog w s mg mb).tick "_escape_attrib_html" ["text"] esc2B esc2S := ⟨126, (hm _).trans (by rfl), (at_esc2 w.params).fn KX' (neq rfl) (neq rfl)⟩
  have h_esc3 : Has (theWd prog w s mg mb).tick "_escape_cdata" ["text"] esc3B esc3S := ⟨112, (hm _).trans (by rfl), (at_esc3 w.params).fn KX' (neq rfl) (neq rfl)⟩
  have h_esc4 : Has (theWd prog w s mg mb).tick "_escape_cdata_c14n" ["text"] esc4B esc4S := ⟨133, (hm _).trans (by rfl), (at_esc4 w.params).fn KX' (neq rfl) (neq rfl)⟩
  have h_wby : Has (theWd prog w s mg mb).tick "_law_written_by" ["which", "line"] wbyB wbyS := ⟨247, (hm _).trans (by rfl), (at_wby w.params).fn KX' (neq rfl) (neq rfl)⟩
  have h_tab : Has (theWd prog w s mg mb).tick "_law_table" ["which"] tabB tabS := ⟨147, (hm _).trans (by rfl), (at_tab w.params).fn KX' (neq rfl) (neq rfl)⟩
  have h_sign : Has (theWd prog w s mg mb).tick "_law_sign" ["x"] signB signS := ⟨154, (hm _).trans (by rfl), (at_sign w.params).fn KX' (neq rfl) (neq rfl)⟩
  have h_bare : Has (theWd prog w s mg mb).tick "_law_bare" ["word"] bareB bareS := ⟨159, (hm _).trans (by rfl), (at_bare w.params).fn KX' (neq rfl) (neq rfl)⟩
  have h_spel : Has (theWd prog w s mg mb).tick "_law_spelled" ["sign", "table"] spelB spelS := ⟨166, (hm _).trans (by rfl), (at_spel w.params).fn KX' (neq rfl) (neq rfl)⟩
  have h_wide : Has (theWd prog w s mg mb).tick "_law_wide" ["name", "table"] wideB wideS := ⟨171, (hm _).trans (by rfl), (at_wide w.params).fn KX' (neq rfl) (neq rfl)⟩
  have h_know : Has (theWd prog w s mg mb).tick "_law_known" ["mode"] knowB knowS := ⟨178, (hm _).trans (by rfl), (at_know w.params).fn KX' (neq rfl) (neq rfl)⟩
  have h_star : Has (theWd prog w s mg mb).tick "_law_start" ["files", "i", "table"] starB starS := ⟨183, (hm _).trans (by rfl), (at_star w.params).fn KX' (neq rfl) (neq rfl)⟩
  have h_fron : Has (theWd prog w s mg mb).tick "_law_front" ["files", "i", "table"] fronB fronS := ⟨190, (hm _).trans (by rfl), (at_fron w.params).fn KX' (neq rfl) (neq rfl)⟩
  have h_righ : Has (theWd prog w s mg mb).tick "_law_right" ["mode", "place"] righB righS := ⟨197, (hm _).trans (by rfl), (at_righ w.params).fn KX' (neq rfl) (neq rfl)⟩
  have h_turn : Has (theWd prog w s mg mb).tick "_law_turn" ["page", "files", "i", "bit", "table"] turnB turnS := ⟨204, (hm _).trans (by rfl), (at_turn w.params).fn KX' (neq rfl) (neq rfl)⟩
  have h_put : Has (theWd prog w s mg mb).tick "_law_put" ["page", "files", "i", "p", "sign", "table"] putB putS := ⟨209, (hm _).trans (by rfl), (at_put w.params).fn KX' (neq rfl) (neq rfl)⟩
  have h_lose : Has (theWd prog w s mg mb).tick "_law_lose" ["page", "files", "i", "p", "table"] loseB loseS := ⟨214, (hm _).trans (by rfl), (at_lose w.params).fn KX' (neq rfl) (neq rfl)⟩
  have h_come : Has (theWd prog w s mg mb).tick "_law_come" ["page", "files", "i", "mode", "table"] comeB comeS := ⟨219, (hm _).trans (by rfl), (at_come w.params).fn KX' (neq rfl) (neq rfl)⟩
  have h_go : Has (theWd prog w s mg mb).tick "_law_go" ["page", "files", "i", "table"] goB goS := ⟨226, (hm _).trans (by rfl), (at_go w.params).fn KX' (neq rfl) (neq rfl)⟩
  have h_chan : Has (theWd prog w s mg mb).tick "_law_change" ["page", "files", "i", "table"] chanB chanS := ⟨233, (hm _).trans (by rfl), (at_chan w.params).fn KX' (neq rfl) (neq rfl)⟩
  have h_deed : Has (theWd prog w s mg mb).tick "_law_deed" ["page", "files", "x", "table"] deedB deedS := ⟨240, (hm _).trans (by rfl), (at_deed w.params).fn KX' (neq rfl) (neq rfl)⟩
  have h_find : ∃ f p cd, (theWd prog w s mg mb).tick.mg "_find_unsafe" = some (.ref f) ∧ ReAt (theWd prog w s mg mb).tick.hb f p cd ∧ f ≠ (theWd prog w s mg mb).tick.P ∧ p ≠ (theWd prog w s mg mb).tick.P ∧ cd ≠ (theWd prog w s mg mb).tick.P :=
    ⟨44, 36, 35, (hm _).trans (by rfl), ⟨⟨_, KX _ _ rfl, rfl, rfl⟩, ⟨_, _, KX _ _ rfl, rfl, rfl, rfl, rfl, rfl⟩, ⟨_, _, _, KX _ _ rfl, rfl, by decide +kernel⟩⟩, neq rfl, neq rfl, neq rfl⟩
  have h_tbl : TblAt (theWd prog w s mg mb).tick := tbl_of KX' [66, 68, 70, 74, 76, 78, 82, 84, 86, 90] ((hm _).trans (by rfl)) rfl (neq rfl) (.cons (row_of KX' [59, 60, 61, 62, 63, 64, 65] rfl (neq rfl) (.cons (pair_of KX' rfl (neq rfl)) (.cons (pair_of KX' rfl (neq rfl)) (.cons (pair_of KX' rfl (neq rfl)) (.cons (pair_of KX' rfl (neq rfl)) (.cons (pair_of KX' rfl (neq rfl)) (.cons (pair_of KX' rfl (neq rfl)) (.cons (pair_of KX' rfl (neq rfl)) .nil)))))))) (.cons (row_of KX' [67] rfl (neq rfl) (.cons (pair_of KX' rfl (neq rfl)) .nil)) (.cons (row_of KX' [69] rfl (neq rfl) (.cons (pair_of KX' rfl (neq rfl)) .nil)) (.cons (row_of KX' [71, 72, 73] rfl (neq rfl) (.cons (pair_of KX' rfl (neq rfl)) (.cons (pair_of KX' rfl (neq rfl)) (.cons (pair_of KX' rfl (neq rfl)) .nil)))) (.cons (row_of KX' [75] rfl (neq rfl) (.cons (pair_of KX' rfl (neq rfl)) .nil)) (.cons (row_of KX' [77] rfl (neq rfl) (.cons (pair_of KX' rfl (neq rfl)) .nil)) (.cons (row_of KX' [79, 80, 81] rfl (neq rfl) (.cons (pair_of KX' rfl (neq rfl)) (.cons (pair_of KX' rfl (neq rfl)) (.cons (pair_of KX' rfl (neq rfl)) .nil)))) (.cons (row_of KX' [83] rfl (neq rfl) (.cons (pair_of KX' rfl (neq rfl)) .nil)) (.cons (row_of KX' [85] rfl (neq rfl) (.cons (pair_of KX' rfl (neq rfl)) .nil)) (.cons (row_of KX' [87, 88, 89] rfl (neq rfl) (.cons (pair_of KX' rfl (neq rfl)) (.cons (pair_of KX' rfl (neq rfl)) (.cons (pair_of KX' rfl (neq rfl)) .nil)))) .nil))))))))))
  have h_join2 : ∃ f, (theWd prog w s mg mb).tick.mg "join" = some (.ref f) ∧ Fn (theWd prog w s mg mb).tick f ["split_command"] joinB joinS ∧ ∀ o fd, (theWd prog w s mg mb).tick.hb.get? f = some o → o.data = .func fd → fd.code = .ref (theWd prog w s mg mb).tick.c :=
    ⟨43, (hm _).trans (by rfl), (at_join w.params).fn KX' (neq rfl) (neq rfl), (at_join w.params).code KX'⟩
  have h_stat : ∃ o, (theWd prog w s mg mb).tick.hb.get? cStatics = some o ∧ cStatics ≠ (theWd prog w s mg mb).tick.P := by
    obtain ⟨o, _, _, e, _⟩ := hmc
    exact ⟨o, e, neq rfl⟩
  have hno : ∀ x : Str, x ∈ ([Str.ofString "len", Str.ofString "sum", Str.ofString "chr"] : List Str) → (theWd prog w s mg mb).tick.mg x = none := fun x hx => by
    simp only [List.mem_cons, List.not_mem_nil, or_false] at hx
    rcases hx with rfl | rfl | rfl <;> exact (hm _).trans (by rfl)
  refine ⟨?_, (at_law w.params).fn (B := theWd prog w s mg mb) KX (neq rfl) (neq rfl), (hm _).trans (by rfl)⟩
  exact { ok := ok, there := there, find := h_find, quote := h_quote, gr := rfl, gk := rfl, t0 := rfl, join := h_join2, tbl := h_tbl, enu := .boot ((hm _).trans (by rfl)) (by decide) (by rfl), bi := hno, ran := (hm _).trans (by rfl), sysm := h_stat, ifmt := h_ifmt, fmode := h_fmode, esc0 := h_esc0, esc1 := h_esc1, esc2 := h_esc2, esc3 := h_esc3, esc4 := h_esc4, wby := h_wby, tab := h_tab, sign := h_sign, bare := h_bare, spel := h_spel, wide := h_wide, know := h_know, star := h_star, fron := h_fron, righ := h_righ, turn := h_turn, put := h_put, lose := h_lose, come := h_come, go := h_go, chan := h_chan, deed := h_deed }

/-- how the law leaves the world -/
def GoodEnd (s s' : Shared) : Prop := OldK s.heap s'.heap ∧ s'.os = s.os ∧ AllBare s'.gens

theorem finish {prog : Program} {w : World} {s : Shared} {mg mb : Str → Option Value} (T : HeadAt mg mb s.heap) (KX : (Mine01.hd.heap_39 w.params).In s.heap) {fa : Addr} (hmg : mg "law" = some (.ref fa)) (hg : s.gens = #[]) {a : Addr} {vs : List Value} {is : List Int}
    (hL : s.heap.IsList a vs.toArray) (hI : IntsAre vs is) (hlen : is.length ≤ 63) {QQ : Value → Shared → Prop} {E : Value → Shared → Prop} (hq : ∀ s', GoodEnd s s' → QQ (.bool true) s') : wpAny (model prog w) callerA (call (.ref fa) [.ref a]) QQ E s := by
  obtain ⟨TT, F, hl⟩ := top_is (prog := prog) T KX
  rw [hmg] at hl
  cases hl
  have hP : s.heap.get? 38 = some { cls := .none, data := .fields #[] } := T.tab.2.2
  have haP : a ≠ 38 := fun q => by
    obtain ⟨o, e, hc, _⟩ := hL
    rw [q, hP] at e; cases e; cases hc
  have X : XL (theWd prog w s mg mb).tick a is := ⟨⟨vs, hL, hI⟩, haP⟩
  have S0 : SB (theWd prog w s mg mb) [] [] s := ⟨fun a o e _ => e, fun a h => (by cases h), rfl, List.nodup_nil, fun k o a e => (by cases e), ⟨#[], by simpa [theWd] using T.tab⟩, by show AllBare s.gens; rw [hg]; exact AllBare.empty, rfl, Nat.zero_le _⟩
  refine law_call (n := 0) TT (Nat.zero_le _) F X hlen callerA E s [] [.ref a] QQ ⟨rfl, by decide, by decide⟩ S0 (.cons rfl .nil) fun v v' H' ρ' s' hv vv S' st' => ?_
  obtain rfl := hv
  obtain rfl := vv
  refine hq s' ⟨⟨fun b o e => ?_, fun b o e => ?_⟩, S'.os, S'.gens⟩
  · by_cases hb : b = 38
    · subst hb
      obtain ⟨more, hc, ht⟩ := S'.tab
      rw [hP] at e; cases e
      exact .inr (.inl ⟨T.tab.2.isCodeTable, rfl, #[], more, rfl, ht.2⟩)
    · exact .inl (S'.keep b o e (np hb))
  · by_cases hb : b = 38
    · subst hb; exact S'.tab.there
    · exact ⟨o, S'.keep b o e (np hb)⟩

theorem head_is {loose : List Str} {mean : ExcName → Option Value} {w : World} {mg mb : Str → Option Value} {h : Heap} (T : PyProof.Rows.Top Mine01.hd.view_39 loose mean mg mb h) (KX : (Mine01.hd.heap_39 w.params).In h) : HeadAt mg mb h := by
  obtain ⟨mc, hmc, _⟩ := T.nodigits
  refine ⟨T.g, T.b, T.nolimit, ⟨mc, hmc⟩, T.builtins, T.bmain, ?_⟩
  obtain ⟨d, hd, hn⟩ := List.any_eq_true.mp has_join
  obtain ⟨a, o, fd, c, P, h1, h2, h3, h4, h5, h6⟩ := T.tab d hd
  rw [beq_iff_eq.mp hn] at h1
  have hm := (mg_is (K := Mine01.hd.heap_39 w.params) KX T.g rfl rfl "join").trans (show _ = some (Value.ref 43) by rfl)
  rw [hm] at h1
  cases h1
  obtain ⟨o', fd', oc, vs, t, g1, g2, g3, g4, g5, g6, g7, g8, g9, g10, g11, g12⟩ := at_join w.params
  rw [KX _ _ g1] at h2; cases h2
  rw [g2] at h3; cases h3
  rw [g8] at h4; cases h4
  obtain ⟨⟨oc', vs', e1, e2, e3, e4⟩, e5⟩ := id h6
  have hk : (Mine01.hd.heap_39 w.params).lookup 42 = some _ := rfl
  rw [KX _ _ hk] at e1; cases e1
  cases e3
  have : P = 38 := by
    have e4' := Option.some.inj e4
    injection e4' with e4'
    exact e4'.symm
  subst this
  exact ⟨h5, h6⟩
end Mine

set_option maxRecDepth 100000 in
set_option maxHeartbeats 8000000 in
theorem PySem.Challenge.cw_op0104_01_holds : PySem.Challenge.rw_op0104_01.Holds := by
  refine Mine01.hd ?_
  intro w s₀ s₁ mg mb G Y fa o pm cd doc dV kV ho hd hcd hD hmg hg args vals as hpre hlay hrd hwl hlo
  have KX := kIn_of Y
  have T := Mine.head_is G.T KX
  clear Y ho hd hcd hD G
  wrow_args hpre hlay hrd hwl hlo
  rename_i hL _ _ _ hI _ hle _
  refine Mine.finish T KX hmg hg hL hI (by omega) fun s' g => ?_
  refine ⟨.inl ⟨_, _, [], rfl, fun _ => rfl, ReadsW.bool true, ?_, fun _ => ⟨List.nodup_nil, fun _ hm => (nomatch hm)⟩⟩, g.1, g.2.1, g.2.2⟩
  first | rfl | wrow_post

end
